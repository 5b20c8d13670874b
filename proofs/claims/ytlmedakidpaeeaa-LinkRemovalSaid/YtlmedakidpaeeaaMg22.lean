/- Layer 27: the reference's Add, AddLink, Unlink, Remove, Same. -/
import Derived.Test.YtlmedakidpaeeaaMg21
namespace Go.Proofs.Ytlmedakidpaeeaa
open Go.RowKit
set_option maxRecDepth 100000
theorem P6 (w:Ws) (hw:Bc w) (x:St):B3 Try.prog 34 [.d (LO w),.d (AW x)] (.tup [LO (addW w x).1,Bh (addW w x).2]):=by
 have hfew:=hw.few;refine DA Try.func34 Z Z Try.ntmps34 Z Z Z fun F hF=>(AG ?_);refine AH (U (JT 20 Z Z Z Z Z Z Z) (U (HQ 21 Dm Z Z Z Z) (AD Z Z (AF (AG (AG (AH (AC Z Z ?_))))))))
 first | refine J (JS rfl Try.underlying9 rfl) ?_ | refine J (Cd Z Z Try.underlying9 rfl) ?_ | refine J (JO rfl Try.underlying9 rfl) ?_ | refine J (JQ rfl Try.underlying9 rfl) ?_ | refine J (JN rfl Try.underlying9 rfl) ?_ | refine J (JE rfl Try.underlying9 rfl) ?_
 first | refine J (El Z Z Z) ?_ | refine J (Em Z Z Z) ?_
 refine AC Z Z ?_
 first | refine Hq 9 rfl (fun h9=>?_) (fun h9=>?_) | refine HP 9 rfl (fun h9=>?_) (fun h9=>?_)
 ·refine Aw Z Z Z Z (Aw Z Z Z Z (Aw Z Z Z Z (J (GS Z Z Z Z) (AF (JG Z Z (AG (AH ?_)))))))
  first | refine J (BX Z Z AT rfl) ?_ | refine J (BY Z Z AT Z Z Z) ?_ | refine J (BZ Z Z (rfl) rfl AT rfl) ?_
  refine U (Bq Z Z Z Z Z Z Z Be) (AD Z Z (AF (At ?_)));exact ⟨_,[],[],As rfl,rfl,rfl,by rw [HO (by omega)],rfl⟩
 ·refine A3 Z Z Z (AC Z Z (A3 Z Z Z ?_))
  first | refine J (JS rfl Try.underlying9 rfl) ?_ | refine J (Cd Z Z Try.underlying9 rfl) ?_ | refine J (JO rfl Try.underlying9 rfl) ?_ | refine J (JQ rfl Try.underlying9 rfl) ?_ | refine J (JN rfl Try.underlying9 rfl) ?_ | refine J (JE rfl Try.underlying9 rfl) ?_
  refine A3 Z Z Z ?_
  first | refine J (Mo Z Z Z) ?_ | refine J (K8 Z Z Z) ?_
  refine J (En Z Z Z Z) (AF ?_)
  first | refine BC rfl (fun h13=>?_) (fun h13=>?_) | refine Ax rfl (fun h13=>?_) (fun h13=>?_)
  ·refine AG (AH ?_)
   first | refine J (BX Z Z AT rfl) ?_ | refine J (BY Z Z AT Z Z Z) ?_ | refine J (BZ Z Z (rfl) rfl AT rfl) ?_
   refine U (Bq Z Z Z Z Z Z Z Be) (AD Z Z (AF (At ?_)));exact ⟨_,[],[],As rfl,rfl,rfl,by rw [HO (by omega)],rfl⟩
  ·refine Aj (AG (AG (AH ?_)))
   first | refine J (A5 rfl A0 Z Z Z) ?_ | refine J (A7 rfl A0 Z Z Z) ?_ | refine J (A8 rfl A0 Z Z Z) ?_ | refine J (A6 rfl A0 Z Z Z) ?_ | refine J (A4 rfl A0 Z Z Z) ?_
   first | refine J (AZ Z Z AN rfl) ?_ | refine J (AX Z Z Z AN rfl) ?_ | refine J (AY Z Z (rfl) rfl AN rfl) ?_
   refine AC Z Z (J (DL (Bj w.R x (by omega)) Z Z) (AF ?_))
   first | refine BC rfl (fun h18=>?_) (fun h18=>?_) | refine Ax rfl (fun h18=>?_) (fun h18=>?_)
   ·refine AG (AH ?_)
    first | refine J (BX Z Z AT rfl) ?_ | refine J (BY Z Z AT Z Z Z) ?_ | refine J (BZ Z Z (rfl) rfl AT rfl) ?_
    refine U (Bq Z Z Z Z Z Z Z Be) (AD Z Z (AF (At ?_)));exact ⟨_,[],[],As rfl,rfl,rfl,by rw [NY (by omega) h18],rfl⟩
   ·refine Aj (AG (AG (AH ?_)))
    first | refine J (A5 rfl A0 Z Z Z) ?_ | refine J (A7 rfl A0 Z Z Z) ?_ | refine J (A8 rfl A0 Z Z Z) ?_ | refine J (A6 rfl A0 Z Z Z) ?_ | refine J (A4 rfl A0 Z Z Z) ?_
    first | refine J (AZ Z Z AN rfl) ?_ | refine J (AX Z Z Z AN rfl) ?_ | refine J (AY Z Z (rfl) rfl AN rfl) ?_
    refine J (Cd rfl (List.length_map ..) Try.underlying32 rfl) (J (K9 Z Z Z) (AF ?_))
    first | refine BC rfl (fun h23=>?_) (fun h23=>?_) | refine Ax rfl (fun h23=>?_) (fun h23=>?_)
    ·refine AG (AH ?_)
     first | refine J (BX Z Z AT rfl) ?_ | refine J (BY Z Z AT Z Z Z) ?_ | refine J (BZ Z Z (rfl) rfl AT rfl) ?_
     refine U (Bq Z Z Z Z Z Z Z Be) (AD Z Z (AF (At ?_)));exact ⟨_,[],[],As rfl,rfl,rfl,by rw [NX (by omega) h18 (by omega)],rfl⟩
    ·refine Aj (AG (F1 [[],[0],[],[0,1,2],[],[4],[0,1,2,3,4,5],[0,1,2,3,4,5,6],[0,1,2,3,4,5,6,7]] mixed rfl (D1 ?_)))
     first | refine AE [2] [] Z Z (fun _=>AB (A5 rfl A0 Z Z Z)) ?_ | refine AI [2] Z Z (fun _=>AB (A5 rfl A0 Z Z Z)) ?_ | refine AE [2] [] Z Z (fun _=>AB (A7 rfl A0 Z Z Z)) ?_ | refine AI [2] Z Z (fun _=>AB (A7 rfl A0 Z Z Z)) ?_ | refine AE [2] [] Z Z (fun _=>AB (A8 rfl A0 Z Z Z)) ?_ | refine AI [2] Z Z (fun _=>AB (A8 rfl A0 Z Z Z)) ?_ | refine AE [2] [] Z Z (fun _=>AB (A6 rfl A0 Z Z Z)) ?_ | refine AI [2] Z Z (fun _=>AB (A6 rfl A0 Z Z Z)) ?_ | refine AE [2] [] Z Z (fun _=>AB (A4 rfl A0 Z Z Z)) ?_ | refine AI [2] Z Z (fun _=>AB (A4 rfl A0 Z Z Z)) ?_
     first | refine AE [25] [20] Z Z (fun _=>AB (AZ Z Z AN rfl)) ?_ | refine AE [25] [20] Z Z (fun _=>AB (AX Z Z Z AN rfl)) ?_ | refine AE [25] [20] Z Z (fun _=>AB (AY Z Z (rfl) rfl AN rfl)) ?_
     first | refine AE [1] [] Z Z (fun _=>AB (Ac Z Z)) ?_ | refine AI [1] Z Z (fun _=>AB (Ac Z Z)) ?_
     first | refine AE [26,27] [] Z Z (fun _=>AB (DL (EJ w.R x (by omega)) Z Z)) ?_ | refine AI [26,27] Z Z (fun _=>AB (DL (EJ w.R x (by omega)) Z Z)) ?_
     first | refine AE [2] [] Z Z (fun _=>AB (A5 rfl Ag Z Z Z)) ?_ | refine AI [2] Z Z (fun _=>AB (A5 rfl Ag Z Z Z)) ?_ | refine AE [2] [] Z Z (fun _=>AB (A7 rfl Ag Z Z Z)) ?_ | refine AI [2] Z Z (fun _=>AB (A7 rfl Ag Z Z Z)) ?_ | refine AE [2] [] Z Z (fun _=>AB (A8 rfl Ag Z Z Z)) ?_ | refine AI [2] Z Z (fun _=>AB (A8 rfl Ag Z Z Z)) ?_ | refine AE [2] [] Z Z (fun _=>AB (A6 rfl Ag Z Z Z)) ?_ | refine AI [2] Z Z (fun _=>AB (A6 rfl Ag Z Z Z)) ?_ | refine AE [2] [] Z Z (fun _=>AB (A4 rfl Ag Z Z Z)) ?_ | refine AI [2] Z Z (fun _=>AB (A4 rfl Ag Z Z Z)) ?_
     first | refine AE [29] [20] Z Z (fun _=>AB (AZ Z Z Az rfl)) ?_ | refine AE [29] [20] Z Z (fun _=>AB (AX Z Z Z Az rfl)) ?_ | refine AE [29] [20] Z Z (fun _=>AB (AY Z Z (rfl) rfl Az rfl)) ?_
     refine D2 6 Z Z Z (BQ 7 Z Z (J (Me Dm Ll Z Z Z) (AF ⟨rfl,?_⟩)));refine BQ 8 Z Z (U (Bq Z Z Z Z Z Z Z Be) (AF ⟨rfl,?_⟩));refine BQ 9 Z Z (AD Z Z (AF ⟨rfl,?_⟩));refine Ei (At ?_);exact ⟨_,[],[],As rfl,rfl,rfl,by rw [NW (by omega) h18 (by omega)],rfl⟩
noncomputable def gD (w:Ws):D:=if acyW w=true then IC (groupsW w) else .sl (some true) []
theorem DB (w:Ws) (hw:Bc w) (hl:w.K.length≤2000000):B3 Try.prog 37 [.d (LO w)] (.tup [gD w,Am (acyW w)]):=by
 have h:=Li w hw hl;unfold gD
 by_cases hc:acyW w=true
 ·rw [if_pos hc] at h⊢;rw [hc];exact h
 ·rw [if_neg hc] at h⊢;rw [Bool.eq_false_iff.2 hc];exact h
set_option maxHeartbeats 4000000 in
theorem Ke (w:Ws) (hw:Bc w) (hK:w.K.length≤1000000) (l:Lw):B3 Try.prog 35 [.d (LO w),.d (Nj l)] (.tup [LO (lnkW w l).1,Bh (lnkW w l).2]):=by
 have hfew:=hw.few;refine DA Try.func35 Z Z Try.ntmps35 Z Z Z fun F hF=>(AG ?_);refine AH (U (JT 20 Z Z Z Z Z Z Z) (U (JT 21 Z Z Z Z Z Z Z) (U (HQ 22 Dm Z Z Z Z) (AD Z Z (AF (AG (AG (AH ?_))))))))
 first | refine J (A5 rfl KW Z Z Z) ?_ | refine J (A7 rfl KW Z Z Z) ?_ | refine J (A8 rfl KW Z Z Z) ?_ | refine J (A6 rfl KW Z Z Z) ?_ | refine J (A4 rfl KW Z Z Z) ?_
 first | refine J (AZ Z Z Bv rfl) ?_ | refine J (AX Z Z Z Bv rfl) ?_ | refine J (AY Z Z (rfl) rfl Bv rfl) ?_
 first | refine J (IP Z Z Z) ?_ | refine J (iOq Z Z Z) ?_ | refine J (Ho Z Z Z) ?_ | refine J (IJ Try.underlying3 Z Z Z) ?_ | refine J (IL Try.underlying3 Z Z Z) ?_ | refine J (st_neqN Try.underlying3 Z Z) ?_ | refine J (IN Try.underlying3 Z Z) ?_ | refine J (st_neqMz Try.underlying3 Z Z) ?_ | refine J (IK Try.underlying3 Z Z Z) ?_ | refine J (st_neqFN Try.underlying3 Z Z) ?_
 refine AC Z Z ?_
 first | refine Hq 12 rfl (fun h12=>?_) (fun h12=>?_) | refine HP 12 rfl (fun h12=>?_) (fun h12=>?_)
 ·refine A3 Z Z Z ?_
  first | refine J (A5 rfl KW Z Z Z) ?_ | refine J (A7 rfl KW Z Z Z) ?_ | refine J (A8 rfl KW Z Z Z) ?_ | refine J (A6 rfl KW Z Z Z) ?_ | refine J (A4 rfl KW Z Z Z) ?_
  refine A3 Z Z Z ?_
  first | refine J (AZ Z Z Bv rfl) ?_ | refine J (AX Z Z Z Bv rfl) ?_ | refine J (AY Z Z (rfl) rfl Bv rfl) ?_
  refine A3 Z Z Z ?_
  first | refine J (IP Z Z Z) ?_ | refine J (iOq Z Z Z) ?_ | refine J (Ho Z Z Z) ?_ | refine J (IJ Try.underlying3 Z Z Z) ?_ | refine J (IL Try.underlying3 Z Z Z) ?_ | refine J (st_neqN Try.underlying3 Z Z) ?_ | refine J (IN Try.underlying3 Z Z) ?_ | refine J (st_neqMz Try.underlying3 Z Z) ?_ | refine J (IK Try.underlying3 Z Z Z) ?_ | refine J (st_neqFN Try.underlying3 Z Z) ?_
  refine J (GS Z Z Z Z) (AF ?_)
  first | refine BC rfl (fun h16=>?_) (fun h16=>?_) | refine Ax rfl (fun h16=>?_) (fun h16=>?_)
  ·refine AG (AH ?_)
   first | refine J (BX Z Z AT rfl) ?_ | refine J (BY Z Z AT Z Z Z) ?_ | refine J (BZ Z Z (rfl) rfl AT rfl) ?_
   refine U (Bq Z Z Z Z Z Z Z Be) (AD Z Z (AF (At ?_)));exact ⟨_,[],[],As rfl,rfl,rfl,by rw [QK h12 h16],rfl⟩
  ·refine Aj (AG (AG (AH ?_)))
   first | refine J (A5 rfl A0 Z Z Z) ?_ | refine J (A7 rfl A0 Z Z Z) ?_ | refine J (A8 rfl A0 Z Z Z) ?_ | refine J (A6 rfl A0 Z Z Z) ?_ | refine J (A4 rfl A0 Z Z Z) ?_
   first | refine J (AZ Z Z AN rfl) ?_ | refine J (AX Z Z Z AN rfl) ?_ | refine J (AY Z Z (rfl) rfl AN rfl) ?_
   first | refine J (A5 rfl CE Z Z Z) ?_ | refine J (A7 rfl CE Z Z Z) ?_ | refine J (A8 rfl CE Z Z Z) ?_ | refine J (A6 rfl CE Z Z Z) ?_ | refine J (A4 rfl CE Z Z Z) ?_
   first | refine J (AZ Z Z AQ rfl) ?_ | refine J (AX Z Z Z AQ rfl) ?_ | refine J (AY Z Z (rfl) rfl AQ rfl) ?_
   refine J (DL (Bj w.R l.f (by omega)) Z Z) ?_
   first | refine J (ET Z Z) ?_ | refine J (EO Z Z) ?_
   refine AC Z Z ?_
   first | refine Hq 24 rfl (fun h24=>?_) (fun h24=>?_) | refine HP 24 rfl (fun h24=>?_) (fun h24=>?_)
   ·refine Aw Z Z Z Z (Aw Z Z Z Z ?_);refine Aw Z Z Z Z (Aw Z Z Z Z (Aw Z Z Z Z (Aw Z Z Z Z (J (GS Z Z Z Z) (AF (JG Z Z (AG (AH ?_))))))))
    first | refine J (BX Z Z AT rfl) ?_ | refine J (BY Z Z AT Z Z Z) ?_ | refine J (BZ Z Z (rfl) rfl AT rfl) ?_
    refine U (Bq Z Z Z Z Z Z Z Be) (AD Z Z (AF (At ?_)));have h9:lnkW w l=(w,9):=MI (by first | exact .inl (Classical.not_not.1 h12) | exact .inr (Classical.not_not.1 h16)) (by first | exact .inl h24 | exact .inr h31);exact ⟨_,[],[],As rfl,rfl,rfl,by rw [h9],rfl⟩
   ·refine A3 Z Z Z ?_
    first | refine J (A5 rfl A0 Z Z Z) ?_ | refine J (A7 rfl A0 Z Z Z) ?_ | refine J (A8 rfl A0 Z Z Z) ?_ | refine J (A6 rfl A0 Z Z Z) ?_ | refine J (A4 rfl A0 Z Z Z) ?_
    refine A3 Z Z Z ?_
    first | refine J (AZ Z Z AN rfl) ?_ | refine J (AX Z Z Z AN rfl) ?_ | refine J (AY Z Z (rfl) rfl AN rfl) ?_
    refine A3 Z Z Z ?_
    first | refine J (A5 rfl Ce Z Z Z) ?_ | refine J (A7 rfl Ce Z Z Z) ?_ | refine J (A8 rfl Ce Z Z Z) ?_ | refine J (A6 rfl Ce Z Z Z) ?_ | refine J (A4 rfl Ce Z Z Z) ?_
    refine A3 Z Z Z ?_
    first | refine J (AZ Z Z AQ rfl) ?_ | refine J (AX Z Z Z AQ rfl) ?_ | refine J (AY Z Z (rfl) rfl AQ rfl) ?_
    refine A3 Z Z Z (J (DL (Bj w.R l.r (by omega)) Z Z) (A3 Z Z Z ?_))
    first | refine J (ET Z Z) ?_ | refine J (EO Z Z) ?_
    refine J (En Z Z Z Z) (AF ?_)
    first | refine BC rfl (fun h31=>?_) (fun h31=>?_) | refine Ax rfl (fun h31=>?_) (fun h31=>?_)
    ·refine AG (AH ?_)
     first | refine J (BX Z Z AT rfl) ?_ | refine J (BY Z Z AT Z Z Z) ?_ | refine J (BZ Z Z (rfl) rfl AT rfl) ?_
     refine U (Bq Z Z Z Z Z Z Z Be) (AD Z Z (AF (At ?_)));have h9:lnkW w l=(w,9):=MI (by first | exact .inl (Classical.not_not.1 h12) | exact .inr (Classical.not_not.1 h16)) (by first | exact .inl h24 | exact .inr h31);exact ⟨_,[],[],As rfl,rfl,rfl,by rw [h9],rfl⟩
    ·refine Aj (AG (AG ?_));have ht:l.t=0∨l.t=1:=by first | exact .inl (Classical.not_not.1 h12) | exact .inr (Classical.not_not.1 h16)
     have hfR:l.f∈w.R:=Classical.not_not.1 h24;have hrR:l.r∈w.R:=Classical.not_not.1 h31;refine AH ?_
     first | refine J (A5 rfl CE Z Z Z) ?_ | refine J (A7 rfl CE Z Z Z) ?_ | refine J (A8 rfl CE Z Z Z) ?_ | refine J (A6 rfl CE Z Z Z) ?_ | refine J (A4 rfl CE Z Z Z) ?_
     first | refine J (AZ Z Z AQ rfl) ?_ | refine J (AX Z Z Z AQ rfl) ?_ | refine J (AY Z Z (rfl) rfl AQ rfl) ?_
     first | refine J (A5 rfl Ce Z Z Z) ?_ | refine J (A7 rfl Ce Z Z Z) ?_ | refine J (A8 rfl Ce Z Z Z) ?_ | refine J (A6 rfl Ce Z Z Z) ?_ | refine J (A4 rfl Ce Z Z Z) ?_
     first | refine J (AZ Z Z AQ rfl) ?_ | refine J (AX Z Z Z AQ rfl) ?_ | refine J (AY Z Z (rfl) rfl AQ rfl) ?_
     first | refine J (EN Z Z Z) ?_ | refine J (EY Z Z Z) ?_ | refine J (Dy Z Z Z) ?_ | refine J (EP Try.underlying9 Z Z Z) ?_ | refine J (ES Try.underlying9 Z Z Z) ?_ | refine J (ER Try.underlying9 Z Z) ?_ | refine J (EX Try.underlying9 Z Z) ?_ | refine J (EW Try.underlying9 Z Z) ?_ | refine J (EQ Try.underlying9 Z Z Z) ?_ | refine J (EV Try.underlying9 Z Z) ?_
     refine AF ?_
     first | refine BC rfl (fun h37=>?_) (fun h37=>?_) | refine Ax rfl (fun h37=>?_) (fun h37=>?_)
     ·refine AG (AH ?_)
      first | refine J (BX Z Z AT rfl) ?_ | refine J (BY Z Z AT Z Z Z) ?_ | refine J (BZ Z Z (rfl) rfl AT rfl) ?_
      refine U (Bq Z Z Z Z Z Z Z Be) (AD Z Z (AF (At ?_)));exact ⟨_,[],[],As rfl,rfl,rfl,by rw [KA ht hfR hrR h37],rfl⟩
     ·refine Aj (AG (AG (AH ?_)))
      first | refine J (BX Z Z AT rfl) ?_ | refine J (BY Z Z AT Z Z Z) ?_ | refine J (BZ Z Z (rfl) rfl AT rfl) ?_
      first | refine J (BX Z Z Av rfl) ?_ | refine J (BY Z Z Av Z Z Z) ?_ | refine J (BZ Z Z (rfl) rfl Av rfl) ?_
      refine J (DL (NO w l (by omega)) Z Z) (AF ?_)
      first | refine BC rfl (fun h41=>?_) (fun h41=>?_) | refine Ax rfl (fun h41=>?_) (fun h41=>?_)
      ·refine AG (AH ?_)
       first | refine J (BX Z Z AT rfl) ?_ | refine J (BY Z Z AT Z Z Z) ?_ | refine J (BZ Z Z (rfl) rfl AT rfl) ?_
       refine U (Bq Z Z Z Z Z Z Z Be) (AD Z Z (AF (At ?_)));exact ⟨_,[],[],As rfl,rfl,rfl,by rw [lnk7 ht hfR hrR h37 h41],rfl⟩
      ·refine Aj (AG ?_);have hok1:=hw.with_ ht hfR hrR h37 h41;refine F1 [[],[0],[],[],[3],[2,3,4],[],[6],[2,3,4,5,6,7],[0,1,2,3,4,5,6,7,8],[],[0,1,2,3,4,5,6,7,8,9,10]] mixed rfl (D1 ?_)
       first | refine AE [2] [] Z Z (fun _=>AB (A5 rfl A0 Z Z Z)) ?_ | refine AI [2] Z Z (fun _=>AB (A5 rfl A0 Z Z Z)) ?_ | refine AE [2] [] Z Z (fun _=>AB (A7 rfl A0 Z Z Z)) ?_ | refine AI [2] Z Z (fun _=>AB (A7 rfl A0 Z Z Z)) ?_ | refine AE [2] [] Z Z (fun _=>AB (A8 rfl A0 Z Z Z)) ?_ | refine AI [2] Z Z (fun _=>AB (A8 rfl A0 Z Z Z)) ?_ | refine AE [2] [] Z Z (fun _=>AB (A6 rfl A0 Z Z Z)) ?_ | refine AI [2] Z Z (fun _=>AB (A6 rfl A0 Z Z Z)) ?_ | refine AE [2] [] Z Z (fun _=>AB (A4 rfl A0 Z Z Z)) ?_ | refine AI [2] Z Z (fun _=>AB (A4 rfl A0 Z Z Z)) ?_
       first | refine AE [43] [20] Z Z (fun _=>AB (AZ Z Z AN rfl)) ?_ | refine AE [43] [20] Z Z (fun _=>AB (AX Z Z Z AN rfl)) ?_ | refine AE [43] [20] Z Z (fun _=>AB (AY Z Z (rfl) rfl AN rfl)) ?_
       refine Bt [] [30] [(45,_)] Z Z (fun _=>Hf (Gp 30 Eu Z Z Z Z Z Z Z Z)) (.inr ⟨45,_,rfl,rfl,rfl,rfl,rfl⟩) Z Z Z Z Z ?_
       first | refine AE [2] [] Z Z (fun _=>AB (A5 rfl Ag Z Z Z)) ?_ | refine AI [2] Z Z (fun _=>AB (A5 rfl Ag Z Z Z)) ?_ | refine AE [2] [] Z Z (fun _=>AB (A7 rfl Ag Z Z Z)) ?_ | refine AI [2] Z Z (fun _=>AB (A7 rfl Ag Z Z Z)) ?_ | refine AE [2] [] Z Z (fun _=>AB (A8 rfl Ag Z Z Z)) ?_ | refine AI [2] Z Z (fun _=>AB (A8 rfl Ag Z Z Z)) ?_ | refine AE [2] [] Z Z (fun _=>AB (A6 rfl Ag Z Z Z)) ?_ | refine AI [2] Z Z (fun _=>AB (A6 rfl Ag Z Z Z)) ?_ | refine AE [2] [] Z Z (fun _=>AB (A4 rfl Ag Z Z Z)) ?_ | refine AI [2] Z Z (fun _=>AB (A4 rfl Ag Z Z Z)) ?_
       first | refine AE [46] [20] Z Z (fun _=>AB (AZ Z Z Az rfl)) ?_ | refine AE [46] [20] Z Z (fun _=>AB (AX Z Z Z Az rfl)) ?_ | refine AE [46] [20] Z Z (fun _=>AB (AY Z Z (rfl) rfl Az rfl)) ?_
       refine Bt [45,47] [30] [(48,_)] Z Z (fun _=>Hf (KX (emb:=Nj) [] w.K Z Z Z Z Z Z (fun _=>rfl) Eu (by show (0+w.K.length)*40≤_;omega) Z Z Z Z)) (.inr ⟨48,_,rfl,rfl,rfl,rfl,rfl⟩) Z Z Z Z Z ?_
       first | refine AE [3] [21] Z Z (fun _=>AB (BX Z Z Av rfl)) ?_ | refine AE [3] [21] Z Z (fun _=>AB (BY Z Z Av Z Z Z)) ?_ | refine AE [3] [21] Z Z (fun _=>AB (BZ Z Z (rfl) rfl Av rfl)) ?_
       refine Bt [49] [31] [(50,_)] Z Z (fun _=>Hf (Gp 31 Eu Z Z Z Z Z Z Z Z)) (.inr ⟨50,_,rfl,rfl,rfl,rfl,rfl⟩) Z Z Z Z Z ?_
       first | refine Iw [45] [48,50] [30,31] [(51,_)] Z Z (fun _=>Hf (JM (w.K) ([l]) Z Z Z Z Z Z Z Z Eu (by simp only [List.length_singleton];omega) Z Z Z Z)) (.inr ⟨51,_,rfl,rfl,rfl,rfl,rfl⟩) Z Z Z Z Z ?_ | refine Iw [45] [48,50] [30,31] [(51,_)] Z Z (fun _=>Hf (KX (w.K) ([l]) Z Z Z Z Z Z (fun _=>rfl) Eu (by simp only [List.length_singleton];omega) Z Z Z Z)) (.inr ⟨51,_,rfl,rfl,rfl,rfl,rfl⟩) Z Z Z Z Z ?_
       first | refine AE [44,51] [] Z Z (fun _=>AB (Me Dm Ll Z Z Z)) ?_ | refine AI [44,51] Z Z (fun _=>AB (Me Dm Ll Z Z Z)) ?_
       refine Bt [] [32] [(6,_)] Z Z (fun _=>Hf (HQ 32 Dm Z Z Z Z)) (.inr ⟨6,_,rfl,rfl,rfl,rfl,rfl⟩) Z Z Z Z Z (D2 11 Z Z Z (BQ 12 Z Z (U (Bq Z Z Z Z Z Z Z Be) (AF ⟨rfl,?_⟩))));refine Ei (AG (AG (CR (ys:=(w.K++ [l]).map Nj) 32 0 1 30 Z Z Z (Nat.le_of_eq (by rw [List.length_map])) (List.take_of_length_le (by rw [List.length_map];exact Nat.le_refl _)) Z Z Z Z Z Z (AH ?_))))
       first | refine J (BX Z Z AT rfl) ?_ | refine J (BY Z Z AT Z Z Z) ?_ | refine J (BZ Z Z (rfl) rfl AT rfl) ?_
       refine J (DL (DB (BR w l) hok1 (by show (w.K++ [l]).length≤_;rw [List.length_append,List.length_singleton];omega)) Z Z) (AC Z Z ?_)
       first | refine J (B9 Z Z Z) ?_ | refine J (B8 Z Z Z) ?_
       first | refine J (B9 Z Z Z) ?_ | refine J (B8 Z Z Z) ?_
       refine AD Z Z (AD Z Z (AF (AG ?_)));have h0:=NI ht hfR hrR h37 h41;refine AH (AC Z Z ?_)
       first | refine J (ET Z Z) ?_ | refine J (EO Z Z) ?_
       refine AF ?_
       first | refine BC rfl (fun h59=>?_) (fun h59=>?_) | refine Ax rfl (fun h59=>?_) (fun h59=>?_)
       ·refine AG (AH ?_)
        first | refine J (BX Z Z AT rfl) ?_ | refine J (BY Z Z AT Z Z Z) ?_ | refine J (BZ Z Z (rfl) rfl AT rfl) ?_
        refine U (Bq Z Z Z Z Z Z Z Be) (AD Z Z (AF (At ?_)));have hac:acyW (BR w l)=false:=by simpa using h59
        exact ⟨_,[],[],As rfl,rfl,rfl,by rw [h0,hac];rfl,rfl⟩
       ·refine Aj (AG (AH ?_))
        first | refine J (BX Z Z AT rfl) ?_ | refine J (BY Z Z AT Z Z Z) ?_ | refine J (BZ Z Z (rfl) rfl AT rfl) ?_
        refine U (Bq Z Z Z Z Z Z Z Be) (AD Z Z (AF (At ?_)));have hac:acyW (BR w l)=true:=by simpa using h59
        exact ⟨_,[],[],As rfl,rfl,rfl,by rw [h0,if_pos hac];rfl,rfl⟩
 ·refine Aw Z Z Z Z ?_;refine Aw Z Z Z Z (Aw Z Z Z Z (J (En Z Z Z Z) (AF (DX Z Z (Aj (AG (AG (AH ?_))))))))
  first | refine J (A5 rfl A0 Z Z Z) ?_ | refine J (A7 rfl A0 Z Z Z) ?_ | refine J (A8 rfl A0 Z Z Z) ?_ | refine J (A6 rfl A0 Z Z Z) ?_ | refine J (A4 rfl A0 Z Z Z) ?_
  first | refine J (AZ Z Z AN rfl) ?_ | refine J (AX Z Z Z AN rfl) ?_ | refine J (AY Z Z (rfl) rfl AN rfl) ?_
  first | refine J (A5 rfl CE Z Z Z) ?_ | refine J (A7 rfl CE Z Z Z) ?_ | refine J (A8 rfl CE Z Z Z) ?_ | refine J (A6 rfl CE Z Z Z) ?_ | refine J (A4 rfl CE Z Z Z) ?_
  first | refine J (AZ Z Z AQ rfl) ?_ | refine J (AX Z Z Z AQ rfl) ?_ | refine J (AY Z Z (rfl) rfl AQ rfl) ?_
  refine J (DL (Bj w.R l.f (by omega)) Z Z) ?_
  first | refine J (ET Z Z) ?_ | refine J (EO Z Z) ?_
  refine AC Z Z ?_
  first | refine Hq 24 rfl (fun h24=>?_) (fun h24=>?_) | refine HP 24 rfl (fun h24=>?_) (fun h24=>?_)
  ·refine Aw Z Z Z Z (Aw Z Z Z Z ?_);refine Aw Z Z Z Z (Aw Z Z Z Z (Aw Z Z Z Z (Aw Z Z Z Z (J (GS Z Z Z Z) (AF (JG Z Z (AG (AH ?_))))))))
   first | refine J (BX Z Z AT rfl) ?_ | refine J (BY Z Z AT Z Z Z) ?_ | refine J (BZ Z Z (rfl) rfl AT rfl) ?_
   refine U (Bq Z Z Z Z Z Z Z Be) (AD Z Z (AF (At ?_)));have h9:lnkW w l=(w,9):=MI (by first | exact .inl (Classical.not_not.1 h12) | exact .inr (Classical.not_not.1 h16)) (by first | exact .inl h24 | exact .inr h31);exact ⟨_,[],[],As rfl,rfl,rfl,by rw [h9],rfl⟩
  ·refine A3 Z Z Z ?_
   first | refine J (A5 rfl A0 Z Z Z) ?_ | refine J (A7 rfl A0 Z Z Z) ?_ | refine J (A8 rfl A0 Z Z Z) ?_ | refine J (A6 rfl A0 Z Z Z) ?_ | refine J (A4 rfl A0 Z Z Z) ?_
   refine A3 Z Z Z ?_
   first | refine J (AZ Z Z AN rfl) ?_ | refine J (AX Z Z Z AN rfl) ?_ | refine J (AY Z Z (rfl) rfl AN rfl) ?_
   refine A3 Z Z Z ?_
   first | refine J (A5 rfl Ce Z Z Z) ?_ | refine J (A7 rfl Ce Z Z Z) ?_ | refine J (A8 rfl Ce Z Z Z) ?_ | refine J (A6 rfl Ce Z Z Z) ?_ | refine J (A4 rfl Ce Z Z Z) ?_
   refine A3 Z Z Z ?_
   first | refine J (AZ Z Z AQ rfl) ?_ | refine J (AX Z Z Z AQ rfl) ?_ | refine J (AY Z Z (rfl) rfl AQ rfl) ?_
   refine A3 Z Z Z (J (DL (Bj w.R l.r (by omega)) Z Z) (A3 Z Z Z ?_))
   first | refine J (ET Z Z) ?_ | refine J (EO Z Z) ?_
   refine J (En Z Z Z Z) (AF ?_)
   first | refine BC rfl (fun h31=>?_) (fun h31=>?_) | refine Ax rfl (fun h31=>?_) (fun h31=>?_)
   ·refine AG (AH ?_)
    first | refine J (BX Z Z AT rfl) ?_ | refine J (BY Z Z AT Z Z Z) ?_ | refine J (BZ Z Z (rfl) rfl AT rfl) ?_
    refine U (Bq Z Z Z Z Z Z Z Be) (AD Z Z (AF (At ?_)));have h9:lnkW w l=(w,9):=MI (by first | exact .inl (Classical.not_not.1 h12) | exact .inr (Classical.not_not.1 h16)) (by first | exact .inl h24 | exact .inr h31);exact ⟨_,[],[],As rfl,rfl,rfl,by rw [h9],rfl⟩
   ·refine Aj (AG (AG ?_));have ht:l.t=0∨l.t=1:=by first | exact .inl (Classical.not_not.1 h12) | exact .inr (Classical.not_not.1 h16)
    have hfR:l.f∈w.R:=Classical.not_not.1 h24;have hrR:l.r∈w.R:=Classical.not_not.1 h31;refine AH ?_
    first | refine J (A5 rfl CE Z Z Z) ?_ | refine J (A7 rfl CE Z Z Z) ?_ | refine J (A8 rfl CE Z Z Z) ?_ | refine J (A6 rfl CE Z Z Z) ?_ | refine J (A4 rfl CE Z Z Z) ?_
    first | refine J (AZ Z Z AQ rfl) ?_ | refine J (AX Z Z Z AQ rfl) ?_ | refine J (AY Z Z (rfl) rfl AQ rfl) ?_
    first | refine J (A5 rfl Ce Z Z Z) ?_ | refine J (A7 rfl Ce Z Z Z) ?_ | refine J (A8 rfl Ce Z Z Z) ?_ | refine J (A6 rfl Ce Z Z Z) ?_ | refine J (A4 rfl Ce Z Z Z) ?_
    first | refine J (AZ Z Z AQ rfl) ?_ | refine J (AX Z Z Z AQ rfl) ?_ | refine J (AY Z Z (rfl) rfl AQ rfl) ?_
    first | refine J (EN Z Z Z) ?_ | refine J (EY Z Z Z) ?_ | refine J (Dy Z Z Z) ?_ | refine J (EP Try.underlying9 Z Z Z) ?_ | refine J (ES Try.underlying9 Z Z Z) ?_ | refine J (ER Try.underlying9 Z Z) ?_ | refine J (EX Try.underlying9 Z Z) ?_ | refine J (EW Try.underlying9 Z Z) ?_ | refine J (EQ Try.underlying9 Z Z Z) ?_ | refine J (EV Try.underlying9 Z Z) ?_
    refine AF ?_
    first | refine BC rfl (fun h37=>?_) (fun h37=>?_) | refine Ax rfl (fun h37=>?_) (fun h37=>?_)
    ·refine AG (AH ?_)
     first | refine J (BX Z Z AT rfl) ?_ | refine J (BY Z Z AT Z Z Z) ?_ | refine J (BZ Z Z (rfl) rfl AT rfl) ?_
     refine U (Bq Z Z Z Z Z Z Z Be) (AD Z Z (AF (At ?_)));exact ⟨_,[],[],As rfl,rfl,rfl,by rw [KA ht hfR hrR h37],rfl⟩
    ·refine Aj (AG (AG (AH ?_)))
     first | refine J (BX Z Z AT rfl) ?_ | refine J (BY Z Z AT Z Z Z) ?_ | refine J (BZ Z Z (rfl) rfl AT rfl) ?_
     first | refine J (BX Z Z Av rfl) ?_ | refine J (BY Z Z Av Z Z Z) ?_ | refine J (BZ Z Z (rfl) rfl Av rfl) ?_
     refine J (DL (NO w l (by omega)) Z Z) (AF ?_)
     first | refine BC rfl (fun h41=>?_) (fun h41=>?_) | refine Ax rfl (fun h41=>?_) (fun h41=>?_)
     ·refine AG (AH ?_)
      first | refine J (BX Z Z AT rfl) ?_ | refine J (BY Z Z AT Z Z Z) ?_ | refine J (BZ Z Z (rfl) rfl AT rfl) ?_
      refine U (Bq Z Z Z Z Z Z Z Be) (AD Z Z (AF (At ?_)));exact ⟨_,[],[],As rfl,rfl,rfl,by rw [lnk7 ht hfR hrR h37 h41],rfl⟩
     ·refine Aj (AG ?_);have hok1:=hw.with_ ht hfR hrR h37 h41;refine F1 [[],[0],[],[],[3],[2,3,4],[],[6],[2,3,4,5,6,7],[0,1,2,3,4,5,6,7,8],[],[0,1,2,3,4,5,6,7,8,9,10]] mixed rfl (D1 ?_)
      first | refine AE [2] [] Z Z (fun _=>AB (A5 rfl A0 Z Z Z)) ?_ | refine AI [2] Z Z (fun _=>AB (A5 rfl A0 Z Z Z)) ?_ | refine AE [2] [] Z Z (fun _=>AB (A7 rfl A0 Z Z Z)) ?_ | refine AI [2] Z Z (fun _=>AB (A7 rfl A0 Z Z Z)) ?_ | refine AE [2] [] Z Z (fun _=>AB (A8 rfl A0 Z Z Z)) ?_ | refine AI [2] Z Z (fun _=>AB (A8 rfl A0 Z Z Z)) ?_ | refine AE [2] [] Z Z (fun _=>AB (A6 rfl A0 Z Z Z)) ?_ | refine AI [2] Z Z (fun _=>AB (A6 rfl A0 Z Z Z)) ?_ | refine AE [2] [] Z Z (fun _=>AB (A4 rfl A0 Z Z Z)) ?_ | refine AI [2] Z Z (fun _=>AB (A4 rfl A0 Z Z Z)) ?_
      first | refine AE [43] [20] Z Z (fun _=>AB (AZ Z Z AN rfl)) ?_ | refine AE [43] [20] Z Z (fun _=>AB (AX Z Z Z AN rfl)) ?_ | refine AE [43] [20] Z Z (fun _=>AB (AY Z Z (rfl) rfl AN rfl)) ?_
      refine Bt [] [30] [(45,_)] Z Z (fun _=>Hf (Gp 30 Eu Z Z Z Z Z Z Z Z)) (.inr ⟨45,_,rfl,rfl,rfl,rfl,rfl⟩) Z Z Z Z Z ?_
      first | refine AE [2] [] Z Z (fun _=>AB (A5 rfl Ag Z Z Z)) ?_ | refine AI [2] Z Z (fun _=>AB (A5 rfl Ag Z Z Z)) ?_ | refine AE [2] [] Z Z (fun _=>AB (A7 rfl Ag Z Z Z)) ?_ | refine AI [2] Z Z (fun _=>AB (A7 rfl Ag Z Z Z)) ?_ | refine AE [2] [] Z Z (fun _=>AB (A8 rfl Ag Z Z Z)) ?_ | refine AI [2] Z Z (fun _=>AB (A8 rfl Ag Z Z Z)) ?_ | refine AE [2] [] Z Z (fun _=>AB (A6 rfl Ag Z Z Z)) ?_ | refine AI [2] Z Z (fun _=>AB (A6 rfl Ag Z Z Z)) ?_ | refine AE [2] [] Z Z (fun _=>AB (A4 rfl Ag Z Z Z)) ?_ | refine AI [2] Z Z (fun _=>AB (A4 rfl Ag Z Z Z)) ?_
      first | refine AE [46] [20] Z Z (fun _=>AB (AZ Z Z Az rfl)) ?_ | refine AE [46] [20] Z Z (fun _=>AB (AX Z Z Z Az rfl)) ?_ | refine AE [46] [20] Z Z (fun _=>AB (AY Z Z (rfl) rfl Az rfl)) ?_
      refine Bt [45,47] [30] [(48,_)] Z Z (fun _=>Hf (KX (emb:=Nj) [] w.K Z Z Z Z Z Z (fun _=>rfl) Eu (by show (0+w.K.length)*40≤_;omega) Z Z Z Z)) (.inr ⟨48,_,rfl,rfl,rfl,rfl,rfl⟩) Z Z Z Z Z ?_
      first | refine AE [3] [21] Z Z (fun _=>AB (BX Z Z Av rfl)) ?_ | refine AE [3] [21] Z Z (fun _=>AB (BY Z Z Av Z Z Z)) ?_ | refine AE [3] [21] Z Z (fun _=>AB (BZ Z Z (rfl) rfl Av rfl)) ?_
      refine Bt [49] [31] [(50,_)] Z Z (fun _=>Hf (Gp 31 Eu Z Z Z Z Z Z Z Z)) (.inr ⟨50,_,rfl,rfl,rfl,rfl,rfl⟩) Z Z Z Z Z ?_
      first | refine Iw [45] [48,50] [30,31] [(51,_)] Z Z (fun _=>Hf (JM (w.K) ([l]) Z Z Z Z Z Z Z Z Eu (by simp only [List.length_singleton];omega) Z Z Z Z)) (.inr ⟨51,_,rfl,rfl,rfl,rfl,rfl⟩) Z Z Z Z Z ?_ | refine Iw [45] [48,50] [30,31] [(51,_)] Z Z (fun _=>Hf (KX (w.K) ([l]) Z Z Z Z Z Z (fun _=>rfl) Eu (by simp only [List.length_singleton];omega) Z Z Z Z)) (.inr ⟨51,_,rfl,rfl,rfl,rfl,rfl⟩) Z Z Z Z Z ?_
      first | refine AE [44,51] [] Z Z (fun _=>AB (Me Dm Ll Z Z Z)) ?_ | refine AI [44,51] Z Z (fun _=>AB (Me Dm Ll Z Z Z)) ?_
      refine Bt [] [32] [(6,_)] Z Z (fun _=>Hf (HQ 32 Dm Z Z Z Z)) (.inr ⟨6,_,rfl,rfl,rfl,rfl,rfl⟩) Z Z Z Z Z (D2 11 Z Z Z (BQ 12 Z Z (U (Bq Z Z Z Z Z Z Z Be) (AF ⟨rfl,?_⟩))));refine Ei (AG (AG (CR (ys:=(w.K++ [l]).map Nj) 32 0 1 30 Z Z Z (Nat.le_of_eq (by rw [List.length_map])) (List.take_of_length_le (by rw [List.length_map];exact Nat.le_refl _)) Z Z Z Z Z Z (AH ?_))))
      first | refine J (BX Z Z AT rfl) ?_ | refine J (BY Z Z AT Z Z Z) ?_ | refine J (BZ Z Z (rfl) rfl AT rfl) ?_
      refine J (DL (DB (BR w l) hok1 (by show (w.K++ [l]).length≤_;rw [List.length_append,List.length_singleton];omega)) Z Z) (AC Z Z ?_)
      first | refine J (B9 Z Z Z) ?_ | refine J (B8 Z Z Z) ?_
      first | refine J (B9 Z Z Z) ?_ | refine J (B8 Z Z Z) ?_
      refine AD Z Z (AD Z Z (AF (AG ?_)));have h0:=NI ht hfR hrR h37 h41;refine AH (AC Z Z ?_)
      first | refine J (ET Z Z) ?_ | refine J (EO Z Z) ?_
      refine AF ?_
      first | refine BC rfl (fun h59=>?_) (fun h59=>?_) | refine Ax rfl (fun h59=>?_) (fun h59=>?_)
      ·refine AG (AH ?_)
       first | refine J (BX Z Z AT rfl) ?_ | refine J (BY Z Z AT Z Z Z) ?_ | refine J (BZ Z Z (rfl) rfl AT rfl) ?_
       refine U (Bq Z Z Z Z Z Z Z Be) (AD Z Z (AF (At ?_)));have hac:acyW (BR w l)=false:=by simpa using h59
       exact ⟨_,[],[],As rfl,rfl,rfl,by rw [h0,hac];rfl,rfl⟩
      ·refine Aj (AG (AH ?_))
       first | refine J (BX Z Z AT rfl) ?_ | refine J (BY Z Z AT Z Z Z) ?_ | refine J (BZ Z Z (rfl) rfl AT rfl) ?_
       refine U (Bq Z Z Z Z Z Z Z Be) (AD Z Z (AF (At ?_)));have hac:acyW (BR w l)=true:=by simpa using h59
       exact ⟨_,[],[],As rfl,rfl,rfl,by rw [h0,if_pos hac];rfl,rfl⟩
theorem lw_neC (a b:Lw):(!BA (lwC a) (lwC b))=decide (¬a=b):=by rw [QG];simp
def Hh (l:Lw) (K:List Lw) (k:Nat):List Lw:=(K.take k).filter fun x=>!decide (x=l)
theorem PX {l:Lw} {K:List Lw} {k:Nat} (hk:k<K.length) (h:¬K[k]=l):Hh l K (k+1)=Hh l K k++ [K[k]]:=by
 unfold Hh;rw [List.take_succ_eq_append_getElem hk,List.filter_append];simp [h]
theorem OU {l:Lw} {K:List Lw} {k:Nat} (hk:k<K.length) (h:K[k]=l):Hh l K (k+1)=Hh l K k:=by
 unfold Hh;rw [List.take_succ_eq_append_getElem hk,List.filter_append];simp [h]
theorem PW (l:Lw) (K:List Lw) (k:Nat):(Hh l K k).length≤K.length:=by
 unfold Hh;exact Nat.le_trans (List.length_filter_le _ _) (by rw [List.length_take];omega)
set_option maxHeartbeats 4000000 in
theorem Lh (w:Ws) (hw:Bc w) (hK:w.K.length≤1000000) (l:Lw):B3 Try.prog 36 [.d (LO w),.d (Nj l)] (.tup [LO (unlW w l).1,Bh (unlW w l).2]):=by
 have hfew:=hw.few;refine DA Try.func36 Z Z Try.ntmps36 Z Z Z fun F hF=>(AG ?_);refine AH (U (JT 20 Z Z Z Z Z Z Z) (U (JT 21 Z Z Z Z Z Z Z) (U (HQ 22 Dm Z Z Z Z) (AD Z Z (AF (AG (AG (AH ?_))))))))
 first | refine J (BX Z Z AT rfl) ?_ | refine J (BY Z Z AT Z Z Z) ?_ | refine J (BZ Z Z (rfl) rfl AT rfl) ?_
 first | refine J (BX Z Z Av rfl) ?_ | refine J (BY Z Z Av Z Z Z) ?_ | refine J (BZ Z Z (rfl) rfl Av rfl) ?_
 refine J (DL (NO w l (by omega)) Z Z) ?_
 first | refine J (ET Z Z) ?_ | refine J (EO Z Z) ?_
 refine AF ?_
 first | refine BC rfl (fun h13=>?_) (fun h13=>?_) | refine Ax rfl (fun h13=>?_) (fun h13=>?_)
 ·refine AG (AH ?_)
  first | refine J (BX Z Z AT rfl) ?_ | refine J (BY Z Z AT Z Z Z) ?_ | refine J (BZ Z Z (rfl) rfl AT rfl) ?_
  refine U (Bq Z Z Z Z Z Z Z Be) (AD Z Z (AF (At ?_)));exact ⟨_,[],[],As rfl,rfl,rfl,by rw [unl9 h13],rfl⟩
 ·refine Aj (AG ?_);have hlK:l∈w.K:=Classical.not_not.1 h13;have h0:=unl0 hlK;refine AH ?_
  first | refine J (A5 rfl A0 Z Z Z) ?_ | refine J (A7 rfl A0 Z Z Z) ?_ | refine J (A8 rfl A0 Z Z Z) ?_ | refine J (A6 rfl A0 Z Z Z) ?_ | refine J (A4 rfl A0 Z Z Z) ?_
  first | refine J (AZ Z Z AN rfl) ?_ | refine J (AX Z Z Z AN rfl) ?_ | refine J (AY Z Z (rfl) rfl AN rfl) ?_
  refine J (Me Dm Ll Z Z Z) (U (HQ 32 Dm Z Z Z Z) (U (Bq Z Z Z Z Z Z Z Be) ?_));refine AF (AG (AG (AH (AD Z Z (AF (B7 (DU 32 0 1 33 Eu Z Z Z Z Z Z Z (Ex (α:=Nat×List Lw) (fun q=>⟨51,[(2,(.ptr 20 0 0)),(3,(.ptr 21 0 0)),(4,(.ptr 22 0 0)),(6,(.ptr 32 0 0)),(7,(.d (natD q.1)))],[JA 20 w,(21,[.blk 71 [.d (AW l.f),.d (Bh l.t),.d (AW l.r)]]),(22,[.blk 35 [.d (.sl (some true) []),.d (.sl (some true) [])]]),(32,[.blk 35 [.d (stsD w.R),.own 33 0 q.2.length]]),(33,[.rowD 71 3 (q.2.map Nj)])]⟩) (fun q=>q.1≤w.K.length∧q.2=Hh l w.K q.1) (fun q=>w.K.length - q.1) ((0,[])) (⟨Nat.zero_le _,rfl⟩) (BB hF [20,21,22,32,33] Z Z ⟨rfl,rfl,rfl,rfl,rfl,trivial⟩) ?_))))))));rintro ⟨k,acc⟩ ⟨hk,hacc⟩;dsimp only at hk hacc⊢;refine AG (AG (AH (AC Z Z ?_)))
  first | refine J (A5 rfl Ag Z Z Z) ?_ | refine J (A7 rfl Ag Z Z Z) ?_ | refine J (A8 rfl Ag Z Z Z) ?_ | refine J (A6 rfl Ag Z Z Z) ?_ | refine J (A4 rfl Ag Z Z Z) ?_
  first | refine J (AZ Z Z Az rfl) ?_ | refine J (AX Z Z Z Az rfl) ?_ | refine J (AY Z Z (rfl) rfl Az rfl) ?_
  refine J (Cd rfl (List.length_map ..) Try.underlying33 rfl) ?_
  first | refine J (El Z Z Z) ?_ | refine J (Em Z Z Z) ?_
  refine AF ?_
  first | refine BC rfl (fun h22=>?_) (fun h22=>?_) | refine Ax rfl (fun h22=>?_) (fun h22=>?_)
  ·refine Aj (AG (B7 (AG ?_)));have hkl:k<w.K.length:=Gt h22;have hal:acc.length≤w.K.length:=by rw [hacc];exact PW _ _ _
   refine F1 [[],[0],[],[0,1,2],[0,1,2,3],[],[0,1,2,3,4,5]] mixed rfl (D1 ?_)
   first | refine AE [2] [] Z Z (fun _=>AB (A5 rfl Ag Z Z Z)) ?_ | refine AI [2] Z Z (fun _=>AB (A5 rfl Ag Z Z Z)) ?_ | refine AE [2] [] Z Z (fun _=>AB (A7 rfl Ag Z Z Z)) ?_ | refine AI [2] Z Z (fun _=>AB (A7 rfl Ag Z Z Z)) ?_ | refine AE [2] [] Z Z (fun _=>AB (A8 rfl Ag Z Z Z)) ?_ | refine AI [2] Z Z (fun _=>AB (A8 rfl Ag Z Z Z)) ?_ | refine AE [2] [] Z Z (fun _=>AB (A6 rfl Ag Z Z Z)) ?_ | refine AI [2] Z Z (fun _=>AB (A6 rfl Ag Z Z Z)) ?_ | refine AE [2] [] Z Z (fun _=>AB (A4 rfl Ag Z Z Z)) ?_ | refine AI [2] Z Z (fun _=>AB (A4 rfl Ag Z Z Z)) ?_
   first | refine AE [25] [20] Z Z (fun _=>AB (AZ Z Z Az rfl)) ?_ | refine AE [25] [20] Z Z (fun _=>AB (AX Z Z Z Az rfl)) ?_ | refine AE [25] [20] Z Z (fun _=>AB (AY Z Z (rfl) rfl Az rfl)) ?_
   first | refine AE [7] [] Z Z (fun _=>AB (Ac Z Z)) ?_ | refine AI [7] Z Z (fun _=>AB (Ac Z Z)) ?_
   first | refine AE [26,27] [] Z Z (fun _=>AB (BO (k) Z Z (rfl) (DF hkl) Try.underlying33 rfl C8 rfl)) ?_ | refine AI [26,27] Z Z (fun _=>AB (BO (k) Z Z (rfl) (DF hkl) Try.underlying33 rfl C8 rfl)) ?_ | refine AE [26,27] [] Z Z (fun _=>AB (BP (k) Z Z (rfl) (DF hkl) rfl Try.underlying33 C8 rfl)) ?_ | refine AI [26,27] Z Z (fun _=>AB (BP (k) Z Z (rfl) (DF hkl) rfl Try.underlying33 C8 rfl)) ?_
   first | refine AE [28] [] Z Z (fun _=>AB (BX Z Z Av rfl)) ?_ | refine AI [28] Z Z (fun _=>AB (BX Z Z Av rfl)) ?_ | refine AE [28] [] Z Z (fun _=>AB (BY Z Z Av Z Z Z)) ?_ | refine AI [28] Z Z (fun _=>AB (BY Z Z Av Z Z Z)) ?_ | refine AE [28] [] Z Z (fun _=>AB (BZ Z Z (rfl) rfl Av rfl)) ?_ | refine AI [28] Z Z (fun _=>AB (BZ Z Z (rfl) rfl Av rfl)) ?_
   first | refine AE [3] [21] Z Z (fun _=>AB (BX Z Z Av rfl)) ?_ | refine AE [3] [21] Z Z (fun _=>AB (BY Z Z Av Z Z Z)) ?_ | refine AE [3] [21] Z Z (fun _=>AB (BZ Z Z (rfl) rfl Av rfl)) ?_
   refine D2 6 Z Z Z (BQ 7 Z Z (J (PN (la:=lwC w.K[k]) (lb:=lwC l) (ds:=lwT) (by kernel_rfl) (by kernel_rfl) (by kernel_rfl) Z Z Z Z (Gf _) (Gf _) (lw_neC _ _) rfl) (AF ⟨rfl,?_⟩)));refine Ei ?_
   first | refine BC rfl (fun h31=>?_) (fun h31=>?_) | refine Ax rfl (fun h31=>?_) (fun h31=>?_)
   ·refine F1 [[],[0],[],[2],[],[2,3,4],[2,3,4,5],[2,3,4,5,6],[0,1,2,3,4,5,6,7],[0,1,2,3,4,5,6,7,8],[0,1,2,3,4,5,6,7,8,9]] mixed rfl (D1 ?_)
    first | refine AE [6] [] Z Z (fun _=>AB (A5 rfl Ag Z Z Z)) ?_ | refine AI [6] Z Z (fun _=>AB (A5 rfl Ag Z Z Z)) ?_ | refine AE [6] [] Z Z (fun _=>AB (A7 rfl Ag Z Z Z)) ?_ | refine AI [6] Z Z (fun _=>AB (A7 rfl Ag Z Z Z)) ?_ | refine AE [6] [] Z Z (fun _=>AB (A8 rfl Ag Z Z Z)) ?_ | refine AI [6] Z Z (fun _=>AB (A8 rfl Ag Z Z Z)) ?_ | refine AE [6] [] Z Z (fun _=>AB (A6 rfl Ag Z Z Z)) ?_ | refine AI [6] Z Z (fun _=>AB (A6 rfl Ag Z Z Z)) ?_ | refine AE [6] [] Z Z (fun _=>AB (A4 rfl Ag Z Z Z)) ?_ | refine AI [6] Z Z (fun _=>AB (A4 rfl Ag Z Z Z)) ?_
    first | refine AE [32] [32] Z Z (fun _=>AB (AZ Z Z Az rfl)) ?_ | refine AE [32] [32] Z Z (fun _=>AB (AX Z Z Z Az rfl)) ?_ | refine AE [32] [32] Z Z (fun _=>AB (AY Z Z (rfl) rfl Az rfl)) ?_
    first | refine AE [2] [] Z Z (fun _=>AB (A5 rfl Ag Z Z Z)) ?_ | refine AI [2] Z Z (fun _=>AB (A5 rfl Ag Z Z Z)) ?_ | refine AE [2] [] Z Z (fun _=>AB (A7 rfl Ag Z Z Z)) ?_ | refine AI [2] Z Z (fun _=>AB (A7 rfl Ag Z Z Z)) ?_ | refine AE [2] [] Z Z (fun _=>AB (A8 rfl Ag Z Z Z)) ?_ | refine AI [2] Z Z (fun _=>AB (A8 rfl Ag Z Z Z)) ?_ | refine AE [2] [] Z Z (fun _=>AB (A6 rfl Ag Z Z Z)) ?_ | refine AI [2] Z Z (fun _=>AB (A6 rfl Ag Z Z Z)) ?_ | refine AE [2] [] Z Z (fun _=>AB (A4 rfl Ag Z Z Z)) ?_ | refine AI [2] Z Z (fun _=>AB (A4 rfl Ag Z Z Z)) ?_
    first | refine AE [34] [20] Z Z (fun _=>AB (AZ Z Z Az rfl)) ?_ | refine AE [34] [20] Z Z (fun _=>AB (AX Z Z Z Az rfl)) ?_ | refine AE [34] [20] Z Z (fun _=>AB (AY Z Z (rfl) rfl Az rfl)) ?_
    first | refine AE [7] [] Z Z (fun _=>AB (Ac Z Z)) ?_ | refine AI [7] Z Z (fun _=>AB (Ac Z Z)) ?_
    first | refine AE [35,36] [] Z Z (fun _=>AB (BO (k) Z Z (rfl) (DF hkl) Try.underlying33 rfl C8 rfl)) ?_ | refine AI [35,36] Z Z (fun _=>AB (BO (k) Z Z (rfl) (DF hkl) Try.underlying33 rfl C8 rfl)) ?_ | refine AE [35,36] [] Z Z (fun _=>AB (BP (k) Z Z (rfl) (DF hkl) rfl Try.underlying33 C8 rfl)) ?_ | refine AI [35,36] Z Z (fun _=>AB (BP (k) Z Z (rfl) (DF hkl) rfl Try.underlying33 C8 rfl)) ?_
    first | refine AE [37] [] Z Z (fun _=>AB (BX Z Z Av rfl)) ?_ | refine AI [37] Z Z (fun _=>AB (BX Z Z Av rfl)) ?_ | refine AE [37] [] Z Z (fun _=>AB (BY Z Z Av Z Z Z)) ?_ | refine AI [37] Z Z (fun _=>AB (BY Z Z Av Z Z Z)) ?_ | refine AE [37] [] Z Z (fun _=>AB (BZ Z Z (rfl) rfl Av rfl)) ?_ | refine AI [37] Z Z (fun _=>AB (BZ Z Z (rfl) rfl Av rfl)) ?_
    refine Bt [38] [34] [(39,_)] Z Z (fun _=>Hf (Gp 34 Eu Z Z Z Z Z Z Z Z)) (.inr ⟨39,_,rfl,rfl,rfl,rfl,rfl⟩) Z Z Z Z Z (D2 8 Z Z Z (BQ 9 Z Z ?_))
    first | refine U (JM (acc) ([w.K[k]]) Z Z Z Z Z Z Z Z Eu (by simp only [List.length_singleton];omega) Z Z Z Z) ?_ | refine U (KX (acc) ([w.K[k]]) Z Z Z Z Z Z (fun _=>rfl) Eu (by simp only [List.length_singleton];omega) Z Z Z Z) ?_
    refine AF ⟨rfl,?_⟩;refine BQ 10 Z Z ?_
    first | refine J (A5 rfl Ag Z Z Z) ?_ | refine J (A7 rfl Ag Z Z Z) ?_ | refine J (A8 rfl Ag Z Z Z) ?_ | refine J (A6 rfl Ag Z Z Z) ?_ | refine J (A4 rfl Ag Z Z Z) ?_
    refine AF ⟨rfl,?_⟩;refine BQ 11 Z Z (U (Bq Z Z Z Z Z Z Z sz33) (AF ⟨rfl,?_⟩));refine Ei (AH (AC Z Z (J (C5 Z Z (IntWalk.i64_in _ (by omega)) rfl) (AD Z Z (AF ?_)))));exact ⟨(k+1,acc++ [w.K[k]]),⟨hkl,by show _=Hh l w.K (k+1);rw [PX hkl h31,hacc]⟩,by show w.K.length - (k+1)<w.K.length - k;omega,BB hF [20,21,22,32,33] rfl (rfl) ⟨rfl,rfl,rfl,rfl,rfl,trivial⟩⟩
   ·refine Aj (AH (AC Z Z (J (C5 Z Z (IntWalk.i64_in _ (by omega)) rfl) (AD Z Z (AF ?_)))));exact ⟨(k+1,acc),⟨hkl,by show _=Hh l w.K (k+1);rw [OU hkl (Classical.not_not.1 h31),hacc]⟩,by show w.K.length - (k+1)<w.K.length - k;omega,BB hF [20,21,22,32,33] rfl (rfl) ⟨rfl,rfl,rfl,rfl,rfl,trivial⟩⟩
  ·refine D3 (AG (AG ?_));have hke:k=w.K.length:=by have:=h22;omega
   have hac:acc=(CV w l).K:=by rw [hacc,hke];unfold Hh CV;rw [List.take_length]
   refine CR (ys:=acc.map Nj) 32 0 1 33 Z Z Z (Nat.le_of_eq (by rw [List.length_map])) (List.take_of_length_le (by rw [List.length_map];exact Nat.le_refl _)) Z Z Z Z Z Z ?_;rw [hac];refine AH ?_
   first | refine J (BX Z Z AT rfl) ?_ | refine J (BY Z Z AT Z Z Z) ?_ | refine J (BZ Z Z (rfl) rfl AT rfl) ?_
   refine J (DL (DB (CV w l) (hw.sans l) (Nat.le_trans (List.length_filter_le _ _) (by omega))) Z Z) (AC Z Z ?_)
   first | refine J (B9 Z Z Z) ?_ | refine J (B8 Z Z Z) ?_
   first | refine J (B9 Z Z Z) ?_ | refine J (B8 Z Z Z) ?_
   refine AD Z Z (AD Z Z (AF (AG (AH (AC Z Z ?_)))))
   first | refine J (ET Z Z) ?_ | refine J (EO Z Z) ?_
   refine AF ?_
   first | refine BC rfl (fun h48=>?_) (fun h48=>?_) | refine Ax rfl (fun h48=>?_) (fun h48=>?_)
   ·refine AG (AH ?_)
    first | refine J (BX Z Z AT rfl) ?_ | refine J (BY Z Z AT Z Z Z) ?_ | refine J (BZ Z Z (rfl) rfl AT rfl) ?_
    refine U (Bq Z Z Z Z Z Z Z Be) (AD Z Z (AF (At ?_)));have hc:acyW (CV w l)=false:=by simpa using h48
    exact ⟨_,[],[],As rfl,rfl,rfl,by rw [h0,hc];rfl,rfl⟩
   ·refine Aj (AG (AH ?_))
    first | refine J (BX Z Z AT rfl) ?_ | refine J (BY Z Z AT Z Z Z) ?_ | refine J (BZ Z Z (rfl) rfl AT rfl) ?_
    refine U (Bq Z Z Z Z Z Z Z Be) (AD Z Z (AF (At ?_)));have hc:acyW (CV w l)=true:=by simpa using h48
    exact ⟨_,[],[],As rfl,rfl,rfl,by rw [h0,if_pos hc];rfl,rfl⟩
def Hm (x:St) (R:List St) (k:Nat):List St:=(R.take k).filter fun y=>!decide (y=x)
theorem Qf {x:St} {R:List St} {k:Nat} (hk:k<R.length) (h:¬R[k]=x):Hm x R (k+1)=Hm x R k++ [R[k]]:=by
 unfold Hm;rw [List.take_succ_eq_append_getElem hk,List.filter_append];simp [h]
theorem On {x:St} {R:List St} {k:Nat} (hk:k<R.length) (h:R[k]=x):Hm x R (k+1)=Hm x R k:=by
 unfold Hm;rw [List.take_succ_eq_append_getElem hk,List.filter_append];simp [h]
theorem Qe (x:St) (R:List St) (k:Nat):(Hm x R k).length≤R.length:=by
 unfold Hm;exact Nat.le_trans (List.length_filter_le _ _) (by rw [List.length_take];omega)
def HM (x:St) (K:List Lw) (k:Nat):List Lw:=(K.take k).filter fun l=>!decide (l.f=x) && !decide (l.r=x)
theorem Qh {x:St} {K:List Lw} {k:Nat} (hk:k<K.length) (h1:¬K[k].f=x) (h2:¬K[k].r=x):HM x K (k+1)=HM x K k++ [K[k]]:=by
 unfold HM;rw [List.take_succ_eq_append_getElem hk,List.filter_append];simp [h1,h2]
theorem KN {x:St} {K:List Lw} {k:Nat} (hk:k<K.length) (h:K[k].f=x∨K[k].r=x):HM x K (k+1)=HM x K k:=by
 unfold HM;rw [List.take_succ_eq_append_getElem hk,List.filter_append];rcases h with h | h<;>simp [h]
theorem Qg (x:St) (K:List Lw) (k:Nat):(HM x K k).length≤K.length:=by
 unfold HM;exact Nat.le_trans (List.length_filter_le _ _) (by rw [List.length_take];omega)
set_option maxHeartbeats 4000000 in
theorem HY (w:Ws) (hw:Bc w) (hK:w.K.length≤1000000) (x:St):B3 Try.prog 27 [.d (LO w),.d (AW x)] (.tup [LO (remW w x).1,Bh (remW w x).2]):=by
 have hfew:=hw.few;refine DA Try.func27 Z Z Try.ntmps27 Z Z Z fun F hF=>?_;refine AG (AH (U (JT 20 Z Z Z Z Z Z Z) (U (HQ 21 Dm Z Z Z Z) (AD Z Z (AF (AG (AG (AH ?_))))))))
 first | refine J (A5 rfl A0 Z Z Z) ?_ | refine J (A7 rfl A0 Z Z Z) ?_ | refine J (A8 rfl A0 Z Z Z) ?_ | refine J (A6 rfl A0 Z Z Z) ?_ | refine J (A4 rfl A0 Z Z Z) ?_
 first | refine J (AZ Z Z AN rfl) ?_ | refine J (AX Z Z Z AN rfl) ?_ | refine J (AY Z Z (rfl) rfl AN rfl) ?_
 refine AC Z Z (J (DL (Bj w.R x (by omega)) Z Z) ?_)
 first | refine J (ET Z Z) ?_ | refine J (EO Z Z) ?_
 refine AF ?_
 first | refine BC rfl (fun h15=>?_) (fun h15=>?_) | refine Ax rfl (fun h15=>?_) (fun h15=>?_)
 ·refine AG (AH ?_)
  first | refine J (BX Z Z AT rfl) ?_ | refine J (BY Z Z AT Z Z Z) ?_ | refine J (BZ Z Z (rfl) rfl AT rfl) ?_
  refine U (Bq Z Z Z Z Z Z Z Be) (AD Z Z (AF (At ?_)));exact ⟨_,[],[],As rfl,rfl,rfl,by rw [rem9 h15],rfl⟩
 ·refine Aj (AG ?_);have hxR:x∈w.R:=Classical.not_not.1 h15;have h0:=rem0 hxR;refine AH (J (Me Dm Ll Z Z Z) (U (HQ 32 Dm Z Z Z Z) (U (Bq Z Z Z Z Z Z Z Be) ?_)));refine AF (AG (AG (AH (AD Z Z (AF (B7 (DU 32 0 0 33 Bf Z Z Z Z Z Z Z (Ex (α:=Nat×List St) (fun q=>⟨86,[(1,.d (AW x)),(2,(.ptr 20 0 0)),(4,(.ptr 21 0 0)),(6,(.ptr 32 0 0)),(7,(.d (natD q.1)))],[JA 20 w,(21,[.blk 35 [.d (.sl (some true) []),.d (.sl (some true) [])]]),(32,[.blk 35 [.own 33 0 q.2.length,.d (.sl (some true) [])]]),(33,[.rowD 9 1 (q.2.map AW)])]⟩) (fun q=>q.1≤w.R.length∧q.2=Hm x w.R q.1) (fun q=>w.R.length - q.1) ((0,[])) (⟨Nat.zero_le _,rfl⟩) (BB hF [20,21,32,33] Z Z ⟨rfl,rfl,rfl,rfl,rfl,trivial⟩) ?_))))))));rintro ⟨k,acc⟩ ⟨hk,hacc⟩;dsimp only at hk hacc⊢;refine AG (AG (AH (AC Z Z ?_)))
  first | refine J (A5 rfl A0 Z Z Z) ?_ | refine J (A7 rfl A0 Z Z Z) ?_ | refine J (A8 rfl A0 Z Z Z) ?_ | refine J (A6 rfl A0 Z Z Z) ?_ | refine J (A4 rfl A0 Z Z Z) ?_
  first | refine J (AZ Z Z AN rfl) ?_ | refine J (AX Z Z Z AN rfl) ?_ | refine J (AY Z Z (rfl) rfl AN rfl) ?_
  refine J (Cd rfl (List.length_map ..) Try.underlying32 rfl) ?_
  first | refine J (El Z Z Z) ?_ | refine J (Em Z Z Z) ?_
  refine AF ?_
  first | refine BC rfl (fun h22=>?_) (fun h22=>?_) | refine Ax rfl (fun h22=>?_) (fun h22=>?_)
  ·refine Aj (AG (B7 (AG ?_)));have hkl:k<w.R.length:=Gt h22;have hal:acc.length≤w.R.length:=by rw [hacc];exact Qe _ _ _
   refine AH ?_
   first | refine J (A5 rfl A0 Z Z Z) ?_ | refine J (A7 rfl A0 Z Z Z) ?_ | refine J (A8 rfl A0 Z Z Z) ?_ | refine J (A6 rfl A0 Z Z Z) ?_ | refine J (A4 rfl A0 Z Z Z) ?_
   first | refine J (AZ Z Z AN rfl) ?_ | refine J (AX Z Z Z AN rfl) ?_ | refine J (AY Z Z (rfl) rfl AN rfl) ?_
   refine AC Z Z ?_
   first | refine J (BO (k) Z Z (rfl) (Ai hkl) Try.underlying32 rfl Bl rfl) ?_ | refine J (BP (k) Z Z (rfl) (Ai hkl) rfl Try.underlying32 Bl rfl) ?_
   first | refine J (AZ Z Z AQ rfl) ?_ | refine J (AX Z Z Z AQ rfl) ?_ | refine J (AY Z Z (rfl) rfl AQ rfl) ?_
   refine AC Z Z ?_
   first | refine J (IP Z Z Z) ?_ | refine J (iOq Z Z Z) ?_ | refine J (Ho Z Z Z) ?_ | refine J (IJ Try.underlying9 Z Z Z) ?_ | refine J (IL Try.underlying9 Z Z Z) ?_ | refine J (st_neqN Try.underlying9 Z Z) ?_ | refine J (IN Try.underlying9 Z Z) ?_ | refine J (st_neqMz Try.underlying9 Z Z) ?_ | refine J (IK Try.underlying9 Z Z Z) ?_ | refine J (st_neqFN Try.underlying9 Z Z) ?_
   refine AF ?_
   first | refine BC rfl (fun h31=>?_) (fun h31=>?_) | refine Ax rfl (fun h31=>?_) (fun h31=>?_)
   ·refine F1 [[],[0],[],[2],[],[2,3,4],[2,3,4,5],[2,3,4,5,6],[0,1,2,3,4,5,6,7],[0,1,2,3,4,5,6,7,8],[0,1,2,3,4,5,6,7,8,9]] mixed rfl (D1 ?_)
    first | refine AE [6] [] Z Z (fun _=>AB (A5 rfl A0 Z Z Z)) ?_ | refine AI [6] Z Z (fun _=>AB (A5 rfl A0 Z Z Z)) ?_ | refine AE [6] [] Z Z (fun _=>AB (A7 rfl A0 Z Z Z)) ?_ | refine AI [6] Z Z (fun _=>AB (A7 rfl A0 Z Z Z)) ?_ | refine AE [6] [] Z Z (fun _=>AB (A8 rfl A0 Z Z Z)) ?_ | refine AI [6] Z Z (fun _=>AB (A8 rfl A0 Z Z Z)) ?_ | refine AE [6] [] Z Z (fun _=>AB (A6 rfl A0 Z Z Z)) ?_ | refine AI [6] Z Z (fun _=>AB (A6 rfl A0 Z Z Z)) ?_ | refine AE [6] [] Z Z (fun _=>AB (A4 rfl A0 Z Z Z)) ?_ | refine AI [6] Z Z (fun _=>AB (A4 rfl A0 Z Z Z)) ?_
    first | refine AE [32] [32] Z Z (fun _=>AB (AZ Z Z AN rfl)) ?_ | refine AE [32] [32] Z Z (fun _=>AB (AX Z Z Z AN rfl)) ?_ | refine AE [32] [32] Z Z (fun _=>AB (AY Z Z (rfl) rfl AN rfl)) ?_
    first | refine AE [2] [] Z Z (fun _=>AB (A5 rfl A0 Z Z Z)) ?_ | refine AI [2] Z Z (fun _=>AB (A5 rfl A0 Z Z Z)) ?_ | refine AE [2] [] Z Z (fun _=>AB (A7 rfl A0 Z Z Z)) ?_ | refine AI [2] Z Z (fun _=>AB (A7 rfl A0 Z Z Z)) ?_ | refine AE [2] [] Z Z (fun _=>AB (A8 rfl A0 Z Z Z)) ?_ | refine AI [2] Z Z (fun _=>AB (A8 rfl A0 Z Z Z)) ?_ | refine AE [2] [] Z Z (fun _=>AB (A6 rfl A0 Z Z Z)) ?_ | refine AI [2] Z Z (fun _=>AB (A6 rfl A0 Z Z Z)) ?_ | refine AE [2] [] Z Z (fun _=>AB (A4 rfl A0 Z Z Z)) ?_ | refine AI [2] Z Z (fun _=>AB (A4 rfl A0 Z Z Z)) ?_
    first | refine AE [34] [20] Z Z (fun _=>AB (AZ Z Z AN rfl)) ?_ | refine AE [34] [20] Z Z (fun _=>AB (AX Z Z Z AN rfl)) ?_ | refine AE [34] [20] Z Z (fun _=>AB (AY Z Z (rfl) rfl AN rfl)) ?_
    first | refine AE [7] [] Z Z (fun _=>AB (Ac Z Z)) ?_ | refine AI [7] Z Z (fun _=>AB (Ac Z Z)) ?_
    first | refine AE [35,36] [] Z Z (fun _=>AB (BO (k) Z Z (rfl) (Ai hkl) Try.underlying32 rfl Bl rfl)) ?_ | refine AI [35,36] Z Z (fun _=>AB (BO (k) Z Z (rfl) (Ai hkl) Try.underlying32 rfl Bl rfl)) ?_ | refine AE [35,36] [] Z Z (fun _=>AB (BP (k) Z Z (rfl) (Ai hkl) rfl Try.underlying32 Bl rfl)) ?_ | refine AI [35,36] Z Z (fun _=>AB (BP (k) Z Z (rfl) (Ai hkl) rfl Try.underlying32 Bl rfl)) ?_
    first | refine AE [37] [] Z Z (fun _=>AB (AZ Z Z AQ rfl)) ?_ | refine AI [37] Z Z (fun _=>AB (AZ Z Z AQ rfl)) ?_ | refine AE [37] [] Z Z (fun _=>AB (AX Z Z Z AQ rfl)) ?_ | refine AI [37] Z Z (fun _=>AB (AX Z Z Z AQ rfl)) ?_ | refine AE [37] [] Z Z (fun _=>AB (AY Z Z (rfl) rfl AQ rfl)) ?_ | refine AI [37] Z Z (fun _=>AB (AY Z Z (rfl) rfl AQ rfl)) ?_
    refine Bt [38] [34] [(39,_)] Z Z (fun _=>Hf (Gp 34 Bf Z Z Z Z Z Z Z Z)) (.inr ⟨39,_,rfl,rfl,rfl,rfl,rfl⟩) Z Z Z Z Z (D2 8 Z Z Z (BQ 9 Z Z ?_))
    first | refine U (JM (acc) ([w.R[k]]) Z Z Z Z Z Z Z Z Bf (by simp only [List.length_singleton];omega) Z Z Z Z) ?_ | refine U (KX (acc) ([w.R[k]]) Z Z Z Z Z Z (fun _=>rfl) Bf (by simp only [List.length_singleton];omega) Z Z Z Z) ?_
    refine AF ⟨rfl,?_⟩;refine BQ 10 Z Z ?_
    first | refine J (A5 rfl A0 Z Z Z) ?_ | refine J (A7 rfl A0 Z Z Z) ?_ | refine J (A8 rfl A0 Z Z Z) ?_ | refine J (A6 rfl A0 Z Z Z) ?_ | refine J (A4 rfl A0 Z Z Z) ?_
    refine AF ⟨rfl,?_⟩;refine BQ 11 Z Z (U (Bq Z Z Z Z Z Z Z CG) (AF ⟨rfl,?_⟩));refine Ei (AH (AC Z Z (J (C5 Z Z (IntWalk.i64_in _ (by omega)) rfl) (AD Z Z (AF ?_)))));exact ⟨(k+1,acc++ [w.R[k]]),⟨hkl,by show _=Hm x w.R (k+1);rw [Qf hkl h31,hacc]⟩,by show w.R.length - (k+1)<w.R.length - k;omega,BB hF [20,21,32,33] rfl (rfl) ⟨rfl,rfl,rfl,rfl,rfl,trivial⟩⟩
   ·refine Aj (AH (AC Z Z (J (C5 Z Z (IntWalk.i64_in _ (by omega)) rfl) (AD Z Z (AF ?_)))));exact ⟨(k+1,acc),⟨hkl,by show _=Hm x w.R (k+1);rw [On hkl (Classical.not_not.1 h31),hacc]⟩,by show w.R.length - (k+1)<w.R.length - k;omega,BB hF [20,21,32,33] rfl (rfl) ⟨rfl,rfl,rfl,rfl,rfl,trivial⟩⟩
  ·refine D3 (AG (AG ?_));have hke:k=w.R.length:=by have:=h22;omega
   have hac:acc=(DT w x).R:=by rw [hacc,hke];unfold Hm DT;rw [List.take_length]
   refine CR (ys:=acc.map AW) 32 0 0 33 Z Z Z (Nat.le_of_eq (by rw [List.length_map])) (List.take_of_length_le (by rw [List.length_map];exact Nat.le_refl _)) Z Z Z Z Z Z ?_;rw [hac];refine AH (AD Z Z (AF (B7 (DU 32 0 1 35 Eu Z Z Z Z Z Z Z (Ex (α:=Nat×List Lw) (fun q=>⟨86,[(1,.d (AW x)),(2,(.ptr 20 0 0)),(4,(.ptr 21 0 0)),(6,(.ptr 32 0 0)),(8,(.d (natD q.1)))],[JA 20 w,(21,[.blk 35 [.d (.sl (some true) []),.d (.sl (some true) [])]]),(32,[.blk 35 [.d (stsD (DT w x).R),.own 35 0 q.2.length]]),(35,[.rowD 71 3 (q.2.map Nj)])]⟩) (fun q=>q.1≤w.K.length∧q.2=HM x w.K q.1) (fun q=>w.K.length - q.1) ((0,[])) (⟨Nat.zero_le _,rfl⟩) (BB hF [20,21,32,35] Z Z ⟨rfl,rfl,rfl,rfl,rfl,trivial⟩) ?_)))));rintro ⟨k,acc⟩ ⟨hk,hacc⟩;dsimp only at hk hacc⊢;refine AG (AG (AH (AC Z Z ?_)))
   first | refine J (A5 rfl Ag Z Z Z) ?_ | refine J (A7 rfl Ag Z Z Z) ?_ | refine J (A8 rfl Ag Z Z Z) ?_ | refine J (A6 rfl Ag Z Z Z) ?_ | refine J (A4 rfl Ag Z Z Z) ?_
   first | refine J (AZ Z Z Az rfl) ?_ | refine J (AX Z Z Z Az rfl) ?_ | refine J (AY Z Z (rfl) rfl Az rfl) ?_
   refine J (Cd rfl (List.length_map ..) Try.underlying33 rfl) ?_
   first | refine J (El Z Z Z) ?_ | refine J (Em Z Z Z) ?_
   refine AF ?_
   first | refine BC rfl (fun h46=>?_) (fun h46=>?_) | refine Ax rfl (fun h46=>?_) (fun h46=>?_)
   ·refine Aj (AG (B7 (AG ?_)));have hkl:k<w.K.length:=Gt h46;have hal:acc.length≤w.K.length:=by rw [hacc];exact Qg _ _ _
    refine AH ?_
    first | refine J (A5 rfl Ag Z Z Z) ?_ | refine J (A7 rfl Ag Z Z Z) ?_ | refine J (A8 rfl Ag Z Z Z) ?_ | refine J (A6 rfl Ag Z Z Z) ?_ | refine J (A4 rfl Ag Z Z Z) ?_
    first | refine J (AZ Z Z Az rfl) ?_ | refine J (AX Z Z Z Az rfl) ?_ | refine J (AY Z Z (rfl) rfl Az rfl) ?_
    refine AC Z Z ?_
    first | refine J (BO (k) Z Z (rfl) (DF hkl) Try.underlying33 rfl C8 rfl) ?_ | refine J (BP (k) Z Z (rfl) (DF hkl) rfl Try.underlying33 C8 rfl) ?_
    first | refine J (A5 rfl CE Z Z Z) ?_ | refine J (A7 rfl CE Z Z Z) ?_ | refine J (A8 rfl CE Z Z Z) ?_ | refine J (A6 rfl CE Z Z Z) ?_ | refine J (A4 rfl CE Z Z Z) ?_
    first | refine J (AZ Z Z AQ rfl) ?_ | refine J (AX Z Z Z AQ rfl) ?_ | refine J (AY Z Z (rfl) rfl AQ rfl) ?_
    refine AC Z Z ?_
    first | refine J (IP Z Z Z) ?_ | refine J (iOq Z Z Z) ?_ | refine J (Ho Z Z Z) ?_ | refine J (IJ Try.underlying9 Z Z Z) ?_ | refine J (IL Try.underlying9 Z Z Z) ?_ | refine J (st_neqN Try.underlying9 Z Z) ?_ | refine J (IN Try.underlying9 Z Z) ?_ | refine J (st_neqMz Try.underlying9 Z Z) ?_ | refine J (IK Try.underlying9 Z Z Z) ?_ | refine J (st_neqFN Try.underlying9 Z Z) ?_
    refine AC Z Z ?_
    first | refine Hq 57 rfl (fun h57=>?_) (fun h57=>?_) | refine HP 57 rfl (fun h57=>?_) (fun h57=>?_)
    ·refine A3 Z Z Z ?_
     first | refine J (A5 rfl Ag Z Z Z) ?_ | refine J (A7 rfl Ag Z Z Z) ?_ | refine J (A8 rfl Ag Z Z Z) ?_ | refine J (A6 rfl Ag Z Z Z) ?_ | refine J (A4 rfl Ag Z Z Z) ?_
     refine A3 Z Z Z ?_
     first | refine J (AZ Z Z Az rfl) ?_ | refine J (AX Z Z Z Az rfl) ?_ | refine J (AY Z Z (rfl) rfl Az rfl) ?_
     refine A3 Z Z Z (AC Z Z (A3 Z Z Z ?_))
     first | refine J (BO (k) Z Z (rfl) (DF hkl) Try.underlying33 rfl C8 rfl) ?_ | refine J (BP (k) Z Z (rfl) (DF hkl) rfl Try.underlying33 C8 rfl) ?_
     refine A3 Z Z Z ?_
     first | refine J (A5 rfl Ce Z Z Z) ?_ | refine J (A7 rfl Ce Z Z Z) ?_ | refine J (A8 rfl Ce Z Z Z) ?_ | refine J (A6 rfl Ce Z Z Z) ?_ | refine J (A4 rfl Ce Z Z Z) ?_
     refine A3 Z Z Z ?_
     first | refine J (AZ Z Z AQ rfl) ?_ | refine J (AX Z Z Z AQ rfl) ?_ | refine J (AY Z Z (rfl) rfl AQ rfl) ?_
     refine A3 Z Z Z (AC Z Z (A3 Z Z Z ?_))
     first | refine J (IP Z Z Z) ?_ | refine J (iOq Z Z Z) ?_ | refine J (Ho Z Z Z) ?_ | refine J (IJ Try.underlying9 Z Z Z) ?_ | refine J (IL Try.underlying9 Z Z Z) ?_ | refine J (st_neqN Try.underlying9 Z Z) ?_ | refine J (IN Try.underlying9 Z Z) ?_ | refine J (st_neqMz Try.underlying9 Z Z) ?_ | refine J (IK Try.underlying9 Z Z Z) ?_ | refine J (st_neqFN Try.underlying9 Z Z) ?_
     refine J (GS Z Z Z Z) (AF ?_)
     first | refine BC rfl (fun h66=>?_) (fun h66=>?_) | refine Ax rfl (fun h66=>?_) (fun h66=>?_)
     ·refine F1 [[],[0],[],[2],[],[2,3,4],[2,3,4,5],[2,3,4,5,6],[0,1,2,3,4,5,6,7],[0,1,2,3,4,5,6,7,8],[0,1,2,3,4,5,6,7,8,9]] mixed rfl (D1 ?_)
      first | refine AE [6] [] Z Z (fun _=>AB (A5 rfl Ag Z Z Z)) ?_ | refine AI [6] Z Z (fun _=>AB (A5 rfl Ag Z Z Z)) ?_ | refine AE [6] [] Z Z (fun _=>AB (A7 rfl Ag Z Z Z)) ?_ | refine AI [6] Z Z (fun _=>AB (A7 rfl Ag Z Z Z)) ?_ | refine AE [6] [] Z Z (fun _=>AB (A8 rfl Ag Z Z Z)) ?_ | refine AI [6] Z Z (fun _=>AB (A8 rfl Ag Z Z Z)) ?_ | refine AE [6] [] Z Z (fun _=>AB (A6 rfl Ag Z Z Z)) ?_ | refine AI [6] Z Z (fun _=>AB (A6 rfl Ag Z Z Z)) ?_ | refine AE [6] [] Z Z (fun _=>AB (A4 rfl Ag Z Z Z)) ?_ | refine AI [6] Z Z (fun _=>AB (A4 rfl Ag Z Z Z)) ?_
      first | refine AE [67] [32] Z Z (fun _=>AB (AZ Z Z Az rfl)) ?_ | refine AE [67] [32] Z Z (fun _=>AB (AX Z Z Z Az rfl)) ?_ | refine AE [67] [32] Z Z (fun _=>AB (AY Z Z (rfl) rfl Az rfl)) ?_
      first | refine AE [2] [] Z Z (fun _=>AB (A5 rfl Ag Z Z Z)) ?_ | refine AI [2] Z Z (fun _=>AB (A5 rfl Ag Z Z Z)) ?_ | refine AE [2] [] Z Z (fun _=>AB (A7 rfl Ag Z Z Z)) ?_ | refine AI [2] Z Z (fun _=>AB (A7 rfl Ag Z Z Z)) ?_ | refine AE [2] [] Z Z (fun _=>AB (A8 rfl Ag Z Z Z)) ?_ | refine AI [2] Z Z (fun _=>AB (A8 rfl Ag Z Z Z)) ?_ | refine AE [2] [] Z Z (fun _=>AB (A6 rfl Ag Z Z Z)) ?_ | refine AI [2] Z Z (fun _=>AB (A6 rfl Ag Z Z Z)) ?_ | refine AE [2] [] Z Z (fun _=>AB (A4 rfl Ag Z Z Z)) ?_ | refine AI [2] Z Z (fun _=>AB (A4 rfl Ag Z Z Z)) ?_
      first | refine AE [69] [20] Z Z (fun _=>AB (AZ Z Z Az rfl)) ?_ | refine AE [69] [20] Z Z (fun _=>AB (AX Z Z Z Az rfl)) ?_ | refine AE [69] [20] Z Z (fun _=>AB (AY Z Z (rfl) rfl Az rfl)) ?_
      first | refine AE [8] [] Z Z (fun _=>AB (Ac Z Z)) ?_ | refine AI [8] Z Z (fun _=>AB (Ac Z Z)) ?_
      first | refine AE [70,71] [] Z Z (fun _=>AB (BO (k) Z Z (rfl) (DF hkl) Try.underlying33 rfl C8 rfl)) ?_ | refine AI [70,71] Z Z (fun _=>AB (BO (k) Z Z (rfl) (DF hkl) Try.underlying33 rfl C8 rfl)) ?_ | refine AE [70,71] [] Z Z (fun _=>AB (BP (k) Z Z (rfl) (DF hkl) rfl Try.underlying33 C8 rfl)) ?_ | refine AI [70,71] Z Z (fun _=>AB (BP (k) Z Z (rfl) (DF hkl) rfl Try.underlying33 C8 rfl)) ?_
      first | refine AE [72] [] Z Z (fun _=>AB (BX Z Z Av rfl)) ?_ | refine AI [72] Z Z (fun _=>AB (BX Z Z Av rfl)) ?_ | refine AE [72] [] Z Z (fun _=>AB (BY Z Z Av Z Z Z)) ?_ | refine AI [72] Z Z (fun _=>AB (BY Z Z Av Z Z Z)) ?_ | refine AE [72] [] Z Z (fun _=>AB (BZ Z Z (rfl) rfl Av rfl)) ?_ | refine AI [72] Z Z (fun _=>AB (BZ Z Z (rfl) rfl Av rfl)) ?_
      refine Bt [73] [36] [(74,_)] Z Z (fun _=>Hf (Gp 36 Eu Z Z Z Z Z Z Z Z)) (.inr ⟨74,_,rfl,rfl,rfl,rfl,rfl⟩) Z Z Z Z Z (D2 8 Z Z Z (BQ 9 Z Z ?_))
      first | refine U (JM (acc) ([w.K[k]]) Z Z Z Z Z Z Z Z Eu (by simp only [List.length_singleton];omega) Z Z Z Z) ?_ | refine U (KX (acc) ([w.K[k]]) Z Z Z Z Z Z (fun _=>rfl) Eu (by simp only [List.length_singleton];omega) Z Z Z Z) ?_
      refine AF ⟨rfl,?_⟩;refine BQ 10 Z Z ?_
      first | refine J (A5 rfl Ag Z Z Z) ?_ | refine J (A7 rfl Ag Z Z Z) ?_ | refine J (A8 rfl Ag Z Z Z) ?_ | refine J (A6 rfl Ag Z Z Z) ?_ | refine J (A4 rfl Ag Z Z Z) ?_
      refine AF ⟨rfl,?_⟩;refine BQ 11 Z Z (U (Bq Z Z Z Z Z Z Z sz33) (AF ⟨rfl,?_⟩));refine Ei (AH (AC Z Z (J (C5 Z Z (IntWalk.i64_in _ (by omega)) rfl) (AD Z Z (AF ?_)))));exact ⟨(k+1,acc++ [w.K[k]]),⟨hkl,by show _=HM x w.K (k+1);rw [Qh hkl h57 h66,hacc]⟩,by show w.K.length - (k+1)<w.K.length - k;omega,BB hF [20,21,32,35] rfl (rfl) ⟨rfl,rfl,rfl,rfl,rfl,trivial⟩⟩
     ·refine Aj (AH (AC Z Z (J (C5 Z Z (IntWalk.i64_in _ (by omega)) rfl) (AD Z Z (AF ?_)))));exact ⟨(k+1,acc),⟨hkl,by show _=HM x w.K (k+1);rw [KN hkl (by first | exact .inr (Classical.not_not.1 h66) | exact .inl (Classical.not_not.1 h57)),hacc]⟩,by show w.K.length - (k+1)<w.K.length - k;omega,BB hF [20,21,32,35] rfl (rfl) ⟨rfl,rfl,rfl,rfl,rfl,trivial⟩⟩
    ·refine Aw Z Z Z Z (Aw Z Z Z Z (Aw Z Z Z Z (Aw Z Z Z Z (Aw Z Z Z Z (Aw Z Z Z Z (Aw Z Z Z Z (Aw Z Z Z Z ?_)))))));refine J (En Z Z Z Z) (AF (DX Z Z (Aj (AH (AC Z Z (J (C5 Z Z (IntWalk.i64_in _ (by omega)) rfl) (AD Z Z (AF ?_))))))));exact ⟨(k+1,acc),⟨hkl,by show _=HM x w.K (k+1);rw [KN hkl (by first | exact .inr (Classical.not_not.1 h66) | exact .inl (Classical.not_not.1 h57)),hacc]⟩,by show w.K.length - (k+1)<w.K.length - k;omega,BB hF [20,21,32,35] rfl (rfl) ⟨rfl,rfl,rfl,rfl,rfl,trivial⟩⟩
   ·refine D3 (AG (AG ?_));have hke:k=w.K.length:=by have:=h46;omega
    have hac:acc=(DT w x).K:=by rw [hacc,hke];unfold HM DT;rw [List.take_length]
    refine CR (ys:=acc.map Nj) 32 0 1 35 Z Z Z (Nat.le_of_eq (by rw [List.length_map])) (List.take_of_length_le (by rw [List.length_map];exact Nat.le_refl _)) Z Z Z Z Z Z ?_;rw [hac];refine AH ?_
    first | refine J (BX Z Z AT rfl) ?_ | refine J (BY Z Z AT Z Z Z) ?_ | refine J (BZ Z Z (rfl) rfl AT rfl) ?_
    refine J (DL (DB (DT w x) (hw.cut x) (Nat.le_trans (List.length_filter_le _ _) (by omega))) Z Z) (AC Z Z ?_)
    first | refine J (B9 Z Z Z) ?_ | refine J (B8 Z Z Z) ?_
    first | refine J (B9 Z Z Z) ?_ | refine J (B8 Z Z Z) ?_
    refine AD Z Z (AD Z Z (AF (AG (AH (AC Z Z ?_)))))
    first | refine J (ET Z Z) ?_ | refine J (EO Z Z) ?_
    refine AF ?_
    first | refine BC rfl (fun h83=>?_) (fun h83=>?_) | refine Ax rfl (fun h83=>?_) (fun h83=>?_)
    ·refine AG (AH ?_)
     first | refine J (BX Z Z AT rfl) ?_ | refine J (BY Z Z AT Z Z Z) ?_ | refine J (BZ Z Z (rfl) rfl AT rfl) ?_
     refine U (Bq Z Z Z Z Z Z Z Be) (AD Z Z (AF (At ?_)));have hc:acyW (DT w x)=false:=by simpa using h83
     exact ⟨_,[],[],As rfl,rfl,rfl,by rw [h0,hc];rfl,rfl⟩
    ·refine Aj (AG (AH ?_))
     first | refine J (BX Z Z AT rfl) ?_ | refine J (BY Z Z AT Z Z Z) ?_ | refine J (BZ Z Z (rfl) rfl AT rfl) ?_
     refine U (Bq Z Z Z Z Z Z Z Be) (AD Z Z (AF (At ?_)));have hc:acyW (DT w x)=true:=by simpa using h83
     exact ⟨_,[],[],As rfl,rfl,rfl,by rw [h0,if_pos hc],rfl⟩
abbrev JI.lw (o:JI):Lw:=⟨o.x,o.l.t,o.l.r⟩
noncomputable def opW (w:Ws) (o:JI):Ws×Int:=
 if o.k=0 then addW w o.x else if o.k=1 then lnkW w o.lw else if o.k=2 then unlW w o.lw else if o.k=3 then remW w o.x else (w,0)
theorem Pm {w:Ws} {o:JI} (h:o.k=0):opW w o=addW w o.x:=if_pos h
theorem Pk {w:Ws} {o:JI} (h:o.k=1):opW w o=lnkW w o.lw:=by unfold opW;rw [if_neg (by omega),if_pos h]
theorem Pj {w:Ws} {o:JI} (h:o.k=2):opW w o=unlW w o.lw:=by unfold opW;rw [if_neg (by omega),if_neg (by omega),if_pos h]
theorem Pi {w:Ws} {o:JI} (h:o.k=3):opW w o=remW w o.x:=by unfold opW;rw [if_neg (by omega),if_neg (by omega),if_neg (by omega),if_pos h]
theorem Ph {w:Ws} {o:JI} (h0:¬o.k=0) (h1:¬o.k=1) (h2:¬o.k=2) (h3:¬o.k=3):opW w o=(w,0):=by unfold opW;rw [if_neg h0,if_neg h1,if_neg h2,if_neg h3]
theorem Cv.op {w:Ws} {n:Nat} (h:Cv w n) (o:JI):Cv (opW w o).1 (n+1):=by
 unfold opW
 split
 ·exact h.add _
 split
 ·exact h.lnk _
 split
 ·exact (h.unl _).mono (Nat.le_succ _)
 split
 ·exact (h.rem _).mono (Nat.le_succ _)
 ·exact h.mono (Nat.le_succ _)
set_option maxHeartbeats 1000000 in
theorem model_p (w:Ws) (hw:Bc w) (hK:w.K.length≤1000000) (o:JI):B3 Try.prog 15 [.d (LO w),.d (opD o)] (.tup [LO (opW w o).1,Bh (opW w o).2]):=by
 refine DA Try.func15 Z Z Try.ntmps15 Z Z Z fun F hF=>?_;refine AG (AH (U (JT 20 Z Z Z Z Z Z Z) (U (JT 21 Z Z Z Z Z Z Z) (U (HQ 22 Dm Z Z Z Z) (AD Z Z (AF (AG (AH ?_))))))))
 first | refine J (A5 rfl F2 Z Z Z) ?_ | refine J (A7 rfl F2 Z Z Z) ?_ | refine J (A8 rfl F2 Z Z Z) ?_ | refine J (A6 rfl F2 Z Z Z) ?_ | refine J (A4 rfl F2 Z Z Z) ?_
 first | refine J (AZ Z Z AQ rfl) ?_ | refine J (AX Z Z Z AQ rfl) ?_ | refine J (AY Z Z (rfl) rfl AQ rfl) ?_
 first | refine J (A5 rfl KV Z Z Z) ?_ | refine J (A7 rfl KV Z Z Z) ?_ | refine J (A8 rfl KV Z Z Z) ?_ | refine J (A6 rfl KV Z Z Z) ?_ | refine J (A4 rfl KV Z Z Z) ?_
 first | refine J (A5 rfl Hr Z Z Z) ?_ | refine J (A7 rfl Hr Z Z Z) ?_ | refine J (A8 rfl Hr Z Z Z) ?_ | refine J (A6 rfl Hr Z Z Z) ?_ | refine J (A4 rfl Hr Z Z Z) ?_
 first | refine J (AZ Z Z Bv rfl) ?_ | refine J (AX Z Z Z Bv rfl) ?_ | refine J (AY Z Z (rfl) rfl Bv rfl) ?_
 first | refine J (A5 rfl KV Z Z Z) ?_ | refine J (A7 rfl KV Z Z Z) ?_ | refine J (A8 rfl KV Z Z Z) ?_ | refine J (A6 rfl KV Z Z Z) ?_ | refine J (A4 rfl KV Z Z Z) ?_
 first | refine J (A5 rfl CD Z Z Z) ?_ | refine J (A7 rfl CD Z Z Z) ?_ | refine J (A8 rfl CD Z Z Z) ?_ | refine J (A6 rfl CD Z Z Z) ?_ | refine J (A4 rfl CD Z Z Z) ?_
 first | refine J (AZ Z Z AQ rfl) ?_ | refine J (AX Z Z Z AQ rfl) ?_ | refine J (AY Z Z (rfl) rfl AQ rfl) ?_
 refine J (Me zl71 pl71 Z Z Z) (U (HQ 23 zl71 Z Z Z Z) (U (Bq Z Z Z Z Z Z Z C8) (AF (AG (AG (AH ?_))))))
 first | refine J (A5 rfl Dt Z Z Z) ?_ | refine J (A7 rfl Dt Z Z Z) ?_ | refine J (A8 rfl Dt Z Z Z) ?_ | refine J (A6 rfl Dt Z Z Z) ?_ | refine J (A4 rfl Dt Z Z Z) ?_
 first | refine J (AZ Z Z Bv rfl) ?_ | refine J (AX Z Z Z Bv rfl) ?_ | refine J (AY Z Z (rfl) rfl Bv rfl) ?_
 refine AF (B7 (AG (AH ?_)))
 first | refine J (EN Z Z Z) ?_ | refine J (EY Z Z Z) ?_ | refine J (Dy Z Z Z) ?_ | refine J (EP Try.underlying3 Z Z Z) ?_ | refine J (ES Try.underlying3 Z Z Z) ?_ | refine J (ER Try.underlying3 Z Z) ?_ | refine J (EX Try.underlying3 Z Z) ?_ | refine J (EW Try.underlying3 Z Z) ?_ | refine J (EQ Try.underlying3 Z Z Z) ?_ | refine J (EV Try.underlying3 Z Z) ?_
 refine AD Z Z (AF ?_)
 first | refine BC rfl (fun h18=>?_) (fun h18=>?_) | refine Ax rfl (fun h18=>?_) (fun h18=>?_)
 ·refine AG (AH ?_)
  first | refine J (BX Z Z AT rfl) ?_ | refine J (BY Z Z AT Z Z Z) ?_ | refine J (BZ Z Z (rfl) rfl AT rfl) ?_
  first | refine J (A5 rfl F2 Z Z Z) ?_ | refine J (A7 rfl F2 Z Z Z) ?_ | refine J (A8 rfl F2 Z Z Z) ?_ | refine J (A6 rfl F2 Z Z Z) ?_ | refine J (A4 rfl F2 Z Z Z) ?_
  first | refine J (AZ Z Z AQ rfl) ?_ | refine J (AX Z Z Z AQ rfl) ?_ | refine J (AY Z Z (rfl) rfl AQ rfl) ?_
  refine J (DL (P6 w hw o.x) Z Z) ?_
  first | refine J (B9 Z Z Z) ?_ | refine J (B8 Z Z Z) ?_
  first | refine J (B9 Z Z Z) ?_ | refine J (B8 Z Z Z) ?_
  refine U (Bq Z Z Z Z Z Z Z Be) (AD Z Z (AF (At ?_)));exact ⟨_,[],[],As rfl,rfl,rfl,by rw [Pm h18],rfl⟩
 ·refine AG (AH ?_)
  first | refine J (EN Z Z Z) ?_ | refine J (EY Z Z Z) ?_ | refine J (Dy Z Z Z) ?_ | refine J (EP Try.underlying3 Z Z Z) ?_ | refine J (ES Try.underlying3 Z Z Z) ?_ | refine J (ER Try.underlying3 Z Z) ?_ | refine J (EX Try.underlying3 Z Z) ?_ | refine J (EW Try.underlying3 Z Z) ?_ | refine J (EQ Try.underlying3 Z Z Z) ?_ | refine J (EV Try.underlying3 Z Z) ?_
  refine AD Z Z (AF ?_)
  first | refine BC rfl (fun h26=>?_) (fun h26=>?_) | refine Ax rfl (fun h26=>?_) (fun h26=>?_)
  ·refine AG (AH ?_)
   first | refine J (BX Z Z AT rfl) ?_ | refine J (BY Z Z AT Z Z Z) ?_ | refine J (BZ Z Z (rfl) rfl AT rfl) ?_
   first | refine J (BX Z Z Av rfl) ?_ | refine J (BY Z Z Av Z Z Z) ?_ | refine J (BZ Z Z (rfl) rfl Av rfl) ?_
   refine J (DL (Ke w hw hK o.lw) Z Z) ?_
   first | refine J (B9 Z Z Z) ?_ | refine J (B8 Z Z Z) ?_
   first | refine J (B9 Z Z Z) ?_ | refine J (B8 Z Z Z) ?_
   refine U (Bq Z Z Z Z Z Z Z Be) (AD Z Z (AF (At ?_)));exact ⟨_,[],[],As rfl,rfl,rfl,by rw [Pk h26],rfl⟩
  ·refine AG (AH ?_)
   first | refine J (EN Z Z Z) ?_ | refine J (EY Z Z Z) ?_ | refine J (Dy Z Z Z) ?_ | refine J (EP Try.underlying3 Z Z Z) ?_ | refine J (ES Try.underlying3 Z Z Z) ?_ | refine J (ER Try.underlying3 Z Z) ?_ | refine J (EX Try.underlying3 Z Z) ?_ | refine J (EW Try.underlying3 Z Z) ?_ | refine J (EQ Try.underlying3 Z Z Z) ?_ | refine J (EV Try.underlying3 Z Z) ?_
   refine AD Z Z (AF ?_)
   first | refine BC rfl (fun h33=>?_) (fun h33=>?_) | refine Ax rfl (fun h33=>?_) (fun h33=>?_)
   ·refine AG (AH ?_)
    first | refine J (BX Z Z AT rfl) ?_ | refine J (BY Z Z AT Z Z Z) ?_ | refine J (BZ Z Z (rfl) rfl AT rfl) ?_
    first | refine J (BX Z Z Av rfl) ?_ | refine J (BY Z Z Av Z Z Z) ?_ | refine J (BZ Z Z (rfl) rfl Av rfl) ?_
    refine J (DL (Lh w hw hK o.lw) Z Z) ?_
    first | refine J (B9 Z Z Z) ?_ | refine J (B8 Z Z Z) ?_
    first | refine J (B9 Z Z Z) ?_ | refine J (B8 Z Z Z) ?_
    refine U (Bq Z Z Z Z Z Z Z Be) (AD Z Z (AF (At ?_)));exact ⟨_,[],[],As rfl,rfl,rfl,by rw [Pj h33],rfl⟩
   ·refine AG (AH ?_)
    first | refine J (EN Z Z Z) ?_ | refine J (EY Z Z Z) ?_ | refine J (Dy Z Z Z) ?_ | refine J (EP Try.underlying3 Z Z Z) ?_ | refine J (ES Try.underlying3 Z Z Z) ?_ | refine J (ER Try.underlying3 Z Z) ?_ | refine J (EX Try.underlying3 Z Z) ?_ | refine J (EW Try.underlying3 Z Z) ?_ | refine J (EQ Try.underlying3 Z Z Z) ?_ | refine J (EV Try.underlying3 Z Z) ?_
    refine AD Z Z (AF ?_)
    first | refine BC rfl (fun h40=>?_) (fun h40=>?_) | refine Ax rfl (fun h40=>?_) (fun h40=>?_)
    ·refine AG (AH ?_)
     first | refine J (BX Z Z AT rfl) ?_ | refine J (BY Z Z AT Z Z Z) ?_ | refine J (BZ Z Z (rfl) rfl AT rfl) ?_
     first | refine J (A5 rfl F2 Z Z Z) ?_ | refine J (A7 rfl F2 Z Z Z) ?_ | refine J (A8 rfl F2 Z Z Z) ?_ | refine J (A6 rfl F2 Z Z Z) ?_ | refine J (A4 rfl F2 Z Z Z) ?_
     first | refine J (AZ Z Z AQ rfl) ?_ | refine J (AX Z Z Z AQ rfl) ?_ | refine J (AY Z Z (rfl) rfl AQ rfl) ?_
     refine J (DL (HY w hw hK o.x) Z Z) ?_
     first | refine J (B9 Z Z Z) ?_ | refine J (B8 Z Z Z) ?_
     first | refine J (B9 Z Z Z) ?_ | refine J (B8 Z Z Z) ?_
     refine U (Bq Z Z Z Z Z Z Z Be) (AD Z Z (AF (At ?_)));exact ⟨_,[],[],As rfl,rfl,rfl,by rw [Pi h40],rfl⟩
    ·refine Aj (AG (AH ?_))
     first | refine J (BX Z Z AT rfl) ?_ | refine J (BY Z Z AT Z Z Z) ?_ | refine J (BZ Z Z (rfl) rfl AT rfl) ?_
     refine U (Bq Z Z Z Z Z Z Z Be) (AD Z Z (AF (At ?_)));exact ⟨_,[],[],As rfl,rfl,rfl,by rw [Ph h18 h26 h33 h40],rfl⟩
set_option maxHeartbeats 1000000 in
theorem do_c {M:MF} {b:Nat} {w:Ws} (h:B4 M b w) (hw:Bc w) (hK:w.K.length≤999999) (o:JI):AU Try.prog 16 [.d (pD b 0),.d (opD o)] [(40,[.multi M])] fun r H'=>∃M',r= .d (Bh (opW w o).2)∧H'=[(40,[.multi M'])]∧B4 M' b (opW w o).1:=by
 refine DA Try.func16 Z Z Try.ntmps16 Z Z Z fun F hF=>(AG (AH (U (JT 20 Z Z Z Z Z Z Z) (AD Z Z (AF (AG (AG (AH ?_))))))))
 first | refine J (A5 rfl Dt Z Z Z) ?_ | refine J (A7 rfl Dt Z Z Z) ?_ | refine J (A8 rfl Dt Z Z Z) ?_ | refine J (A6 rfl Dt Z Z Z) ?_ | refine J (A4 rfl Dt Z Z Z) ?_
 first | refine J (AZ Z Z Bv rfl) ?_ | refine J (AX Z Z Z Bv rfl) ?_ | refine J (AY Z Z (rfl) rfl Bv rfl) ?_
 refine AF (B7 (AG (AH ?_)))
 first | refine J (EN Z Z Z) ?_ | refine J (EY Z Z Z) ?_ | refine J (Dy Z Z Z) ?_ | refine J (EP Try.underlying3 Z Z Z) ?_ | refine J (ES Try.underlying3 Z Z Z) ?_ | refine J (ER Try.underlying3 Z Z) ?_ | refine J (EX Try.underlying3 Z Z) ?_ | refine J (EW Try.underlying3 Z Z) ?_ | refine J (EQ Try.underlying3 Z Z Z) ?_ | refine J (EV Try.underlying3 Z Z) ?_
 refine AD Z Z (AF ?_)
 first | refine BC rfl (fun h7=>?_) (fun h7=>?_) | refine Ax rfl (fun h7=>?_) (fun h7=>?_)
 ·refine AG (AH (AC Z Z ?_))
  first | refine J (A5 rfl F2 Z Z Z) ?_ | refine J (A7 rfl F2 Z Z Z) ?_ | refine J (A8 rfl F2 Z Z Z) ?_ | refine J (A6 rfl F2 Z Z Z) ?_ | refine J (A4 rfl F2 Z Z Z) ?_
  first | refine J (AZ Z Z AQ rfl) ?_ | refine J (AX Z Z Z AQ rfl) ?_ | refine J (AY Z Z (rfl) rfl AQ rfl) ?_
  refine He (JF (Nw h hw o.x) rfl [40] ⟨rfl,trivial⟩ Z Z Z Z (fun r H' ⟨M,e1,e2,_⟩=>by subst e1 e2;exact ⟨rfl,rfl,rfl⟩) rfl) rfl ?_;rintro _ ⟨r,H',⟨M1,e1,e2,h1⟩,rfl⟩;subst e1 e2;refine AD Z Z (AF (At ?_));exact ⟨_,[40],_,As rfl,rfl,rfl,M1,by rw [Pm h7],rfl,by rw [Pm h7];exact h1⟩
 ·refine AG (AH ?_)
  first | refine J (EN Z Z Z) ?_ | refine J (EY Z Z Z) ?_ | refine J (Dy Z Z Z) ?_ | refine J (EP Try.underlying3 Z Z Z) ?_ | refine J (ES Try.underlying3 Z Z Z) ?_ | refine J (ER Try.underlying3 Z Z) ?_ | refine J (EX Try.underlying3 Z Z) ?_ | refine J (EW Try.underlying3 Z Z) ?_ | refine J (EQ Try.underlying3 Z Z Z) ?_ | refine J (EV Try.underlying3 Z Z) ?_
  refine AD Z Z (AF ?_)
  first | refine BC rfl (fun h13=>?_) (fun h13=>?_) | refine Ax rfl (fun h13=>?_) (fun h13=>?_)
  ·refine AG (AH (AC Z Z ?_))
   first | refine J (A5 rfl F2 Z Z Z) ?_ | refine J (A7 rfl F2 Z Z Z) ?_ | refine J (A8 rfl F2 Z Z Z) ?_ | refine J (A6 rfl F2 Z Z Z) ?_ | refine J (A4 rfl F2 Z Z Z) ?_
   first | refine J (AZ Z Z AQ rfl) ?_ | refine J (AX Z Z Z AQ rfl) ?_ | refine J (AY Z Z (rfl) rfl AQ rfl) ?_
   first | refine J (A5 rfl KV Z Z Z) ?_ | refine J (A7 rfl KV Z Z Z) ?_ | refine J (A8 rfl KV Z Z Z) ?_ | refine J (A6 rfl KV Z Z Z) ?_ | refine J (A4 rfl KV Z Z Z) ?_
   first | refine J (BX Z Z Ap rfl) ?_ | refine J (BY Z Z Ap Z Z Z) ?_ | refine J (BZ Z Z (rfl) rfl Ap rfl) ?_
   refine He (JF (Km h hw hK o.lw) rfl [40] ⟨rfl,trivial⟩ Z Z Z Z (fun r H' ⟨M,e1,e2,_⟩=>by subst e1 e2;exact ⟨rfl,rfl,rfl⟩) rfl) rfl ?_;rintro _ ⟨r,H',⟨M1,e1,e2,h1⟩,rfl⟩;subst e1 e2;refine AD Z Z (AF (At ?_));exact ⟨_,[40],_,As rfl,rfl,rfl,M1,by rw [Pk h13],rfl,by rw [Pk h13];exact h1⟩
  ·refine AG (AH ?_)
   first | refine J (EN Z Z Z) ?_ | refine J (EY Z Z Z) ?_ | refine J (Dy Z Z Z) ?_ | refine J (EP Try.underlying3 Z Z Z) ?_ | refine J (ES Try.underlying3 Z Z Z) ?_ | refine J (ER Try.underlying3 Z Z) ?_ | refine J (EX Try.underlying3 Z Z) ?_ | refine J (EW Try.underlying3 Z Z) ?_ | refine J (EQ Try.underlying3 Z Z Z) ?_ | refine J (EV Try.underlying3 Z Z) ?_
   refine AD Z Z (AF ?_)
   first | refine BC rfl (fun h21=>?_) (fun h21=>?_) | refine Ax rfl (fun h21=>?_) (fun h21=>?_)
   ·refine AG (AH (AC Z Z ?_))
    first | refine J (A5 rfl F2 Z Z Z) ?_ | refine J (A7 rfl F2 Z Z Z) ?_ | refine J (A8 rfl F2 Z Z Z) ?_ | refine J (A6 rfl F2 Z Z Z) ?_ | refine J (A4 rfl F2 Z Z Z) ?_
    first | refine J (AZ Z Z AQ rfl) ?_ | refine J (AX Z Z Z AQ rfl) ?_ | refine J (AY Z Z (rfl) rfl AQ rfl) ?_
    first | refine J (A5 rfl KV Z Z Z) ?_ | refine J (A7 rfl KV Z Z Z) ?_ | refine J (A8 rfl KV Z Z Z) ?_ | refine J (A6 rfl KV Z Z Z) ?_ | refine J (A4 rfl KV Z Z Z) ?_
    first | refine J (BX Z Z Ap rfl) ?_ | refine J (BY Z Z Ap Z Z Z) ?_ | refine J (BZ Z Z (rfl) rfl Ap rfl) ?_
    refine He (JF (PK h hw (by omega) o.lw) rfl [40] ⟨rfl,trivial⟩ Z Z Z Z (fun r H' ⟨M,e1,e2,_⟩=>by subst e1 e2;exact ⟨rfl,rfl,rfl⟩) rfl) rfl ?_;rintro _ ⟨r,H',⟨M1,e1,e2,h1⟩,rfl⟩;subst e1 e2;refine AD Z Z (AF (At ?_));exact ⟨_,[40],_,As rfl,rfl,rfl,M1,by rw [Pj h21],rfl,by rw [Pj h21];exact h1⟩
   ·refine AG (AH ?_)
    first | refine J (EN Z Z Z) ?_ | refine J (EY Z Z Z) ?_ | refine J (Dy Z Z Z) ?_ | refine J (EP Try.underlying3 Z Z Z) ?_ | refine J (ES Try.underlying3 Z Z Z) ?_ | refine J (ER Try.underlying3 Z Z) ?_ | refine J (EX Try.underlying3 Z Z) ?_ | refine J (EW Try.underlying3 Z Z) ?_ | refine J (EQ Try.underlying3 Z Z Z) ?_ | refine J (EV Try.underlying3 Z Z) ?_
    refine AD Z Z (AF ?_)
    first | refine BC rfl (fun h29=>?_) (fun h29=>?_) | refine Ax rfl (fun h29=>?_) (fun h29=>?_)
    ·refine AG (AH (AC Z Z ?_))
     first | refine J (A5 rfl F2 Z Z Z) ?_ | refine J (A7 rfl F2 Z Z Z) ?_ | refine J (A8 rfl F2 Z Z Z) ?_ | refine J (A6 rfl F2 Z Z Z) ?_ | refine J (A4 rfl F2 Z Z Z) ?_
     first | refine J (AZ Z Z AQ rfl) ?_ | refine J (AX Z Z Z AQ rfl) ?_ | refine J (AY Z Z (rfl) rfl AQ rfl) ?_
     refine He (JF (Lg h hw (by omega) o.x) rfl [40] ⟨rfl,trivial⟩ Z Z Z Z (fun r H' ⟨M,e1,e2,_⟩=>by subst e1 e2;exact ⟨rfl,rfl,rfl⟩) rfl) rfl ?_;rintro _ ⟨r,H',⟨M1,e1,e2,h1⟩,rfl⟩;subst e1 e2;refine AD Z Z (AF (At ?_));exact ⟨_,[40],_,As rfl,rfl,rfl,M1,by rw [Pi h29],rfl,by rw [Pi h29];exact h1⟩
    ·refine Aj (AG (AH (AD Z Z (AF (At ?_)))));exact ⟨_,[40],_,As rfl,rfl,rfl,M,by rw [Ph h7 h13 h21 h29],rfl,by rw [Ph h7 h13 h21 h29];exact h⟩
abbrev Pe (l:List JI):D:= .sl none (l.map opD)
theorem few_p (l:List JI) (hl:l.length≤140737488355328):B3 Try.prog 14 [.d (Pe l)] (Pe (l.take 24)):=by
 refine DA Try.func14 Z Z Try.ntmps14 Z Z Z fun F hF=>?_;refine AG (AH (AD Z Z (AF (AG (AH (AC Z Z (AC Z Z (J (Cd rfl (List.length_map ..) Try.underlying30 rfl) ?_))))))))
 obtain ⟨m,hm,hm1,hm2⟩:∃m:Nat,(if (24:Int)<(l.length:Int) then (24:Int) else (l.length:Int))=(m:Int)∧m≤l.length∧l.take m=l.take 24:=⟨min l.length 24,by omega,by omega,by rw [Nat.min_comm,←List.take_take,List.take_length]⟩
 refine J (st_min Z Z (hm) rfl) ?_
 first | refine J (Mn (m) Z Z Z (by rw [List.length_map];exact hm1) Try.underlying30 LT (by simp [D.cells,byteD]) (List.map_take.symm) rfl) ?_ | refine J (Jc (m) Z Z Z (by rw [List.length_map];exact hm1) rfl Try.underlying30 LT rfl) ?_
 refine AD Z Z (AF (At ?_));exact ⟨_,[],[],As rfl,rfl,rfl,by rw [hm2],rfl⟩
noncomputable def opsW (l:List JI):Ws:=l.foldl (fun w o=>(opW w o).1) ⟨[],[]⟩
theorem O6 (l:List JI) (o:JI):opsW (l++ [o])=(opW (opsW l) o).1:=by unfold opsW;rw [List.foldl_append];rfl
theorem HC {l:List JI} {k:Nat} (hk:k<l.length):opsW (l.take (k+1))=(opW (opsW (l.take k)) l[k]).1:=by rw [List.take_succ_eq_append_getElem hk,O6]
theorem Lo (l:List JI):∀k,k≤l.length ->Cv (opsW (l.take k)) k:=by
 intro k
 induction k with
 | zero=>intro _;exact Cv.nil
 | succ k ih=>intro hk;rw [HC (by omega)];exact (ih (by omega)).op _
theorem Om {l:List JI} {k:Nat} (h:k<l.length):(l.map opD)[k]?=some (opD l[k]):=by
 rw [List.getElem?_map,List.getElem?_eq_getElem h];rfl
set_option maxHeartbeats 4000000 in
theorem play_c (l:List JI) (hl:l.length≤1000):AU Try.prog 18 [.d (Pe l)] [] fun r H'=>∃b M,r= .d (.tup [pD b 0,LO (opsW l)])∧H'=[(40,[.multi M])]∧B4 M b (opsW l):=by
 refine DA Try.func18 Z Z Try.ntmps18 Z Z Z fun F hF=>(AG (AH (AD Z Z (U (HQ 20 Dm Z Z Z Z) (AF (AG (AH ?_)))))));refine He (JF QC rfl [40] ⟨rfl,trivial⟩ Z Z Z Z (fun r H' ⟨b,M,e1,e2,_⟩=>by subst e1 e2;exact ⟨rfl,rfl,rfl⟩) rfl) rfl ?_;rintro _ ⟨r,H',⟨b,M0,e1,e2,h0⟩,rfl⟩;subst e1 e2;refine J (Me Dm Ll Z Z Z) (U (HQ 25 Dm Z Z Z Z) (AD Z Z (U (Bq Z Z Z Z Z Z Z Be) (AF ?_))));refine AG (AG (Nx 25 0 0 (stsD []) Z Z (fun _ _ _ h=>h.anyNil) Z Z (Nx 25 0 1 (Kj []) Z Z (fun _ _ _ h=>h.anyNil) Z Z (AH (AD Z Z (AF (B7 (Ex (α:=Nat×MF) (fun q=>⟨32,[(0,.d (Pe l)),(3,(.ptr 20 0 0)),(4,(.d (pD b 0))),(5,(.ptr 25 0 0)),(6,(.d (natD q.1)))],[(20,[.blk 35 [.d (.sl (some true) []),.d (.sl (some true) [])]]),(25,[.blk 35 [.d (stsD (opsW (l.take q.1)).R),.d (Kj (opsW (l.take q.1)).K)]]),(40,[.multi q.2])]⟩) (fun q=>q.1≤l.length∧B4 q.2 b (opsW (l.take q.1))) (fun q=>l.length - q.1) ((0,M0)) (⟨Nat.zero_le _,h0⟩) (BB hF [20,25,40] Z Z ⟨rfl,rfl,rfl,rfl,rfl,trivial⟩) ?_))))))));rintro ⟨k,M⟩ ⟨hk,hR⟩;dsimp only at hk hR⊢;refine AG (AG (AH (AC Z Z (AC Z Z (J (Cd rfl (List.length_map ..) Try.underlying30 rfl) ?_)))))
 first | refine J (El Z Z Z) ?_ | refine J (Em Z Z Z) ?_
 refine AF ?_
 first | refine BC rfl (fun h12=>?_) (fun h12=>?_) | refine Ax rfl (fun h12=>?_) (fun h12=>?_)
 ·refine Aj (AG (B7 (AG ?_)));have hkl:k<l.length:=Gt h12;have hInv:=Lo l k hk;have hnK:=hInv.nK;refine AH (AC Z Z (AC Z Z (AC Z Z ?_)))
  first | refine J (BO (k) Z Z (rfl) (Om hkl) Try.underlying30 rfl LT rfl) ?_ | refine J (BP (k) Z Z (rfl) (Om hkl) rfl Try.underlying30 LT rfl) ?_
  first | refine J (BX Z Z Kc rfl) ?_ | refine J (BY Z Z Kc Z Z Z) ?_ | refine J (BZ Z Z (rfl) rfl Kc rfl) ?_
  refine He (JF (do_c hR hInv.ok (by omega) l[k]) rfl [40] ⟨rfl,trivial⟩ Z Z Z Z (fun r H' ⟨M,e1,e2,_⟩=>by subst e1 e2;exact ⟨rfl,rfl,rfl⟩) rfl) rfl ?_;rintro _ ⟨r,H',⟨M1,e1,e2,h1⟩,rfl⟩;subst e1 e2;refine AF (F1 [[],[],[],[1,2],[1,2,3],[0,1,2,3,4],[0,1,2,3,4,5],[0,1,2,3,4,5,6],[0,1,2,3,4,5,6],[0,1,2,3,4,5,6,7]] mixed rfl (D1 ?_))
  first | refine AE [5] [25] Z Z (fun _=>AB (BX Z Z AT rfl)) ?_ | refine AE [5] [25] Z Z (fun _=>AB (BY Z Z AT Z Z Z)) ?_ | refine AE [5] [25] Z Z (fun _=>AB (BZ Z Z (rfl) rfl AT rfl)) ?_
  first | refine AE [0] [] Z Z (fun _=>AB (Ac Z Z)) ?_ | refine AI [0] Z Z (fun _=>AB (Ac Z Z)) ?_
  first | refine AE [6] [] Z Z (fun _=>AB (Ac Z Z)) ?_ | refine AI [6] Z Z (fun _=>AB (Ac Z Z)) ?_
  first | refine AE [23,24] [] Z Z (fun _=>AB (BO (k) Z Z (rfl) (Om hkl) Try.underlying30 rfl LT rfl)) ?_ | refine AI [23,24] Z Z (fun _=>AB (BO (k) Z Z (rfl) (Om hkl) Try.underlying30 rfl LT rfl)) ?_ | refine AE [23,24] [] Z Z (fun _=>AB (BP (k) Z Z (rfl) (Om hkl) rfl Try.underlying30 LT rfl)) ?_ | refine AI [23,24] Z Z (fun _=>AB (BP (k) Z Z (rfl) (Om hkl) rfl Try.underlying30 LT rfl)) ?_
  first | refine AE [25] [] Z Z (fun _=>AB (BX Z Z Kc rfl)) ?_ | refine AI [25] Z Z (fun _=>AB (BX Z Z Kc rfl)) ?_ | refine AE [25] [] Z Z (fun _=>AB (BY Z Z Kc Z Z Z)) ?_ | refine AI [25] Z Z (fun _=>AB (BY Z Z Kc Z Z Z)) ?_ | refine AE [25] [] Z Z (fun _=>AB (BZ Z Z (rfl) rfl Kc rfl)) ?_ | refine AI [25] Z Z (fun _=>AB (BZ Z Z (rfl) rfl Kc rfl)) ?_
  refine D2 5 Z Z Z (BQ 6 Z Z (J (DL (model_p (opsW (l.take k)) hInv.ok (by omega) l[k]) Z Z) (AF ⟨rfl,?_⟩)));refine BQ 7 Z Z (AC Z Z (AF ⟨rfl,?_⟩));refine D1 ?_
  first | refine AE [21] [] Z Z (fun _=>AB (B9 Z Z Z)) ?_ | refine AI [21] Z Z (fun _=>AB (B9 Z Z Z)) ?_ | refine AE [21] [] Z Z (fun _=>AB (B8 Z Z Z)) ?_ | refine AI [21] Z Z (fun _=>AB (B8 Z Z Z)) ?_
  first | refine AE [21] [] Z Z (fun _=>AB (B9 Z Z Z)) ?_ | refine AI [21] Z Z (fun _=>AB (B9 Z Z Z)) ?_ | refine AE [21] [] Z Z (fun _=>AB (B8 Z Z Z)) ?_ | refine AI [21] Z Z (fun _=>AB (B8 Z Z Z)) ?_
  refine Bt [5,28] [25] [] Z Z (fun _=>Hf (Bq Z Z Z Z Z Z Z Be)) (.inl ⟨rfl,rfl⟩) Z Z Z Z Z (D2 10 Z Z Z (Ei (AH (AC Z Z (J (C5 Z Z (IntWalk.i64_in _ (by omega)) rfl) (AD Z Z (AF ?_)))))));exact ⟨(k+1,M1),⟨hkl,by show B4 M1 b (opsW (l.take (k+1)));rw [HC hkl];exact h1⟩,by show l.length - (k+1)<l.length - k;omega,BB hF [20,25,40] rfl (by simp only [HC hkl];rfl) ⟨rfl,rfl,rfl,rfl,rfl,trivial⟩⟩
 ·refine D3 (AG ?_);have hke:k=l.length:=by have:=h12;omega
  rw [hke,List.take_length] at hR;rw [hke,List.take_length];refine F1 [[],[],[0],[0,1,2]] mixed rfl (D1 ?_)
  first | refine AE [4] [] Z Z (fun _=>AB (Ac Z Z)) ?_ | refine AI [4] Z Z (fun _=>AB (Ac Z Z)) ?_
  first | refine AE [5] [25] Z Z (fun _=>AB (BX Z Z AT rfl)) ?_ | refine AE [5] [25] Z Z (fun _=>AB (BY Z Z AT Z Z Z)) ?_ | refine AE [5] [25] Z Z (fun _=>AB (BZ Z Z (rfl) rfl AT rfl)) ?_
  first | refine AE [30] [] Z Z (fun _=>AB (ED Z Z)) ?_ | refine AI [30] Z Z (fun _=>AB (ED Z Z)) ?_
  refine D2 3 Z Z Z (BQ 4 Z Z (U (Bq Z Z Z Z Z Z Z Be) (AF ⟨rfl,?_⟩)));refine Ei (At ?_);exact ⟨_,[40],_,As rfl,rfl,rfl,b,M,rfl,rfl,hR⟩
section
variable {P:Program} {F:Fr} {s:AS} {d:Nat} {ty T T' E:TypeId} {pos:String} {aft:Array Edge} {g:Option (Nat×Bool)} {x:Operand}
theorem IN {p:Option Addr} (hT:P.underlying T=some (.pointer E)) (hx:s.ev x=some (.d (.raw (.pointer p)))) (hd:Nat.blt d s.n=true):AA P F ⟨some d,.binOp .neq T x (.const (.pointer none)) T',ty,pos,aft,g⟩ s d (.d (.raw (.bool (!p.isNone)))):=
 Bm _ hd fun ρ act w hs=>by
  have hv:=hs.raw hx;have hp:P.pointee T=E:=by unfold Program.pointee;rw [hT]
  have hc:act.eval (.const (.pointer none))= .pointer none:=rfl;exact ⟨.bool (!p.isNone),by simp [execOp,hv,hc,Di,binOp,run_equal_pointer_nil w T p (by rw [hp];exact hT)],.d (.raw rfl)⟩
end
theorem Q4 {M N:MF} {b b2:Nat} {w w2:Ws} (h:B4 M b w) (h2:B4 N b2 w2) (hw:Bc w) (hw2:Bc w2):AU Try.prog 28 [.d (pD b 0),.d (pD b2 0)] [(41,[.multi M]),(40,[.multi N])] fun r H'=>r= .d (Am (decide (L5 w w2)))∧H'=[(41,[.multi M]),(40,[.multi N])]:=
 (equal_c h h2 hw hw2).by [(40,41)] rfl
theorem IF {w:Ws} (hw:Bc w) (a:St) (b:Bool):(cloW w a b).length≤2000000:=by
 have h1:(cloW w a b).length≤w.R.length:=List.length_filter_le _ _;have:=hw.few;omega
end Go.Proofs.Ytlmedakidpaeeaa
