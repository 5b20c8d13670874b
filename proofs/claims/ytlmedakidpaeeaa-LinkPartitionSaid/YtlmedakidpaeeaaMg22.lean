/- Layer 27: the reference's Add, AddLink, Unlink, Remove, Same. -/
import Derived.Test.YtlmedakidpaeeaaMg21
namespace Go.Proofs.Ytlmedakidpaeeaa
open Go.RowKit
set_option maxRecDepth 100000
theorem Pv (w:Ws) (hw:B4 w) (x:St):BW Try.prog 34 [.d (LY w),.d (AU x)] (.tup [LY (addW w x).1,Bw (addW w x).2]):=by
 have hfew:=hw.few;refine DI Try.func34 Z Z Try.ntmps34 Z Z Z fun F hF=>(AE ?_);refine AH (U (J2 20 Z Z Z Z Z Z Z) (U (IP 21 EN Z Z Z Z) (AD Z Z (AF (AE (AE (AH (AC Z Z ?_))))))))
 first | refine J (IJ rfl Try.underlying9 rfl) ?_ | refine J (CI Z Z Try.underlying9 rfl) ?_ | refine J (iOq rfl Try.underlying9 rfl) ?_ | refine J (IQ rfl Try.underlying9 rfl) ?_ | refine J (IN rfl Try.underlying9 rfl) ?_ | refine J (IB rfl Try.underlying9 rfl) ?_
 first | refine J (EG Z Z Z) ?_ | refine J (EK Z Z Z) ?_
 refine AC Z Z ?_
 first | refine K6 9 rfl (fun h9=>?_) (fun h9=>?_) | refine J0 9 rfl (fun h9=>?_) (fun h9=>?_)
 ·refine BL Z Z Z Z (BL Z Z Z Z (BL Z Z Z Z (J (Hz Z Z Z Z) (AF (K0 Z Z (AE (AH ?_)))))))
  first | refine J (B3 Z Z AR rfl) ?_ | refine J (BZ Z Z AR Z Z Z) ?_ | refine J (B1 Z Z (rfl) rfl AR rfl) ?_
  refine U (Bu Z Z Z Z Z Z Z Bd) (AD Z Z (AF (Av ?_)));exact ⟨_,[],[],As rfl,rfl,rfl,by rw [Hf (by omega)],rfl⟩
 ·refine Ab Z Z Z (AC Z Z (Ab Z Z Z ?_))
  first | refine J (IJ rfl Try.underlying9 rfl) ?_ | refine J (CI Z Z Try.underlying9 rfl) ?_ | refine J (iOq rfl Try.underlying9 rfl) ?_ | refine J (IQ rfl Try.underlying9 rfl) ?_ | refine J (IN rfl Try.underlying9 rfl) ?_ | refine J (IB rfl Try.underlying9 rfl) ?_
  refine Ab Z Z Z ?_
  first | refine J (Ke Z Z Z) ?_ | refine J (IS Z Z Z) ?_
  refine J (HO Z Z Z Z) (AF ?_)
  first | refine BA rfl (fun h13=>?_) (fun h13=>?_) | refine Aw rfl (fun h13=>?_) (fun h13=>?_)
  ·refine AE (AH ?_)
   first | refine J (B3 Z Z AR rfl) ?_ | refine J (BZ Z Z AR Z Z Z) ?_ | refine J (B1 Z Z (rfl) rfl AR rfl) ?_
   refine U (Bu Z Z Z Z Z Z Z Bd) (AD Z Z (AF (Av ?_)));exact ⟨_,[],[],As rfl,rfl,rfl,by rw [Hf (by omega)],rfl⟩
  ·refine Aj (AE (AE (AH ?_)))
   first | refine J (A2 rfl A7 Z Z Z) ?_ | refine J (A4 rfl A7 Z Z Z) ?_ | refine J (A5 rfl A7 Z Z Z) ?_ | refine J (A3 rfl A7 Z Z Z) ?_ | refine J (A1 rfl A7 Z Z Z) ?_
   first | refine J (AZ Z Z AK rfl) ?_ | refine J (AX Z Z Z AK rfl) ?_ | refine J (AY Z Z (rfl) rfl AK rfl) ?_
   refine AC Z Z (J (DU (Bg w.R x (by omega)) Z Z) (AF ?_))
   first | refine BA rfl (fun h18=>?_) (fun h18=>?_) | refine Aw rfl (fun h18=>?_) (fun h18=>?_)
   ·refine AE (AH ?_)
    first | refine J (B3 Z Z AR rfl) ?_ | refine J (BZ Z Z AR Z Z Z) ?_ | refine J (B1 Z Z (rfl) rfl AR rfl) ?_
    refine U (Bu Z Z Z Z Z Z Z Bd) (AD Z Z (AF (Av ?_)));exact ⟨_,[],[],As rfl,rfl,rfl,by rw [Ng (by omega) h18],rfl⟩
   ·refine Aj (AE (AE (AH ?_)))
    first | refine J (A2 rfl A7 Z Z Z) ?_ | refine J (A4 rfl A7 Z Z Z) ?_ | refine J (A5 rfl A7 Z Z Z) ?_ | refine J (A3 rfl A7 Z Z Z) ?_ | refine J (A1 rfl A7 Z Z Z) ?_
    first | refine J (AZ Z Z AK rfl) ?_ | refine J (AX Z Z Z AK rfl) ?_ | refine J (AY Z Z (rfl) rfl AK rfl) ?_
    refine J (CI rfl (List.length_map ..) Try.underlying32 rfl) (J (Ic Z Z Z) (AF ?_))
    first | refine BA rfl (fun h23=>?_) (fun h23=>?_) | refine Aw rfl (fun h23=>?_) (fun h23=>?_)
    ·refine AE (AH ?_)
     first | refine J (B3 Z Z AR rfl) ?_ | refine J (BZ Z Z AR Z Z Z) ?_ | refine J (B1 Z Z (rfl) rfl AR rfl) ?_
     refine U (Bu Z Z Z Z Z Z Z Bd) (AD Z Z (AF (Av ?_)));exact ⟨_,[],[],As rfl,rfl,rfl,by rw [Nf (by omega) h18 (by omega)],rfl⟩
    ·refine Aj (AE (Fs [[],[0],[],[0,1,2],[],[4],[0,1,2,3,4,5],[0,1,2,3,4,5,6],[0,1,2,3,4,5,6,7]] mixed rfl (E6 ?_)))
     first | refine AG [2] [] Z Z (fun _=>AB (A2 rfl A7 Z Z Z)) ?_ | refine AI [2] Z Z (fun _=>AB (A2 rfl A7 Z Z Z)) ?_ | refine AG [2] [] Z Z (fun _=>AB (A4 rfl A7 Z Z Z)) ?_ | refine AI [2] Z Z (fun _=>AB (A4 rfl A7 Z Z Z)) ?_ | refine AG [2] [] Z Z (fun _=>AB (A5 rfl A7 Z Z Z)) ?_ | refine AI [2] Z Z (fun _=>AB (A5 rfl A7 Z Z Z)) ?_ | refine AG [2] [] Z Z (fun _=>AB (A3 rfl A7 Z Z Z)) ?_ | refine AI [2] Z Z (fun _=>AB (A3 rfl A7 Z Z Z)) ?_ | refine AG [2] [] Z Z (fun _=>AB (A1 rfl A7 Z Z Z)) ?_ | refine AI [2] Z Z (fun _=>AB (A1 rfl A7 Z Z Z)) ?_
     first | refine AG [25] [20] Z Z (fun _=>AB (AZ Z Z AK rfl)) ?_ | refine AG [25] [20] Z Z (fun _=>AB (AX Z Z Z AK rfl)) ?_ | refine AG [25] [20] Z Z (fun _=>AB (AY Z Z (rfl) rfl AK rfl)) ?_
     first | refine AG [1] [] Z Z (fun _=>AB (Ah Z Z)) ?_ | refine AI [1] Z Z (fun _=>AB (Ah Z Z)) ?_
     first | refine AG [26,27] [] Z Z (fun _=>AB (DU (EY w.R x (by omega)) Z Z)) ?_ | refine AI [26,27] Z Z (fun _=>AB (DU (EY w.R x (by omega)) Z Z)) ?_
     first | refine AG [2] [] Z Z (fun _=>AB (A2 rfl Ag Z Z Z)) ?_ | refine AI [2] Z Z (fun _=>AB (A2 rfl Ag Z Z Z)) ?_ | refine AG [2] [] Z Z (fun _=>AB (A4 rfl Ag Z Z Z)) ?_ | refine AI [2] Z Z (fun _=>AB (A4 rfl Ag Z Z Z)) ?_ | refine AG [2] [] Z Z (fun _=>AB (A5 rfl Ag Z Z Z)) ?_ | refine AI [2] Z Z (fun _=>AB (A5 rfl Ag Z Z Z)) ?_ | refine AG [2] [] Z Z (fun _=>AB (A3 rfl Ag Z Z Z)) ?_ | refine AI [2] Z Z (fun _=>AB (A3 rfl Ag Z Z Z)) ?_ | refine AG [2] [] Z Z (fun _=>AB (A1 rfl Ag Z Z Z)) ?_ | refine AI [2] Z Z (fun _=>AB (A1 rfl Ag Z Z Z)) ?_
     first | refine AG [29] [20] Z Z (fun _=>AB (AZ Z Z Ay rfl)) ?_ | refine AG [29] [20] Z Z (fun _=>AB (AX Z Z Z Ay rfl)) ?_ | refine AG [29] [20] Z Z (fun _=>AB (AY Z Z (rfl) rfl Ay rfl)) ?_
     refine E7 6 Z Z Z (Bq 7 Z Z (J (Mr EN Lt Z Z Z) (AF ⟨rfl,?_⟩)));refine Bq 8 Z Z (U (Bu Z Z Z Z Z Z Z Bd) (AF ⟨rfl,?_⟩));refine Bq 9 Z Z (AD Z Z (AF ⟨rfl,?_⟩));refine FH (Av ?_);exact ⟨_,[],[],As rfl,rfl,rfl,by rw [Nd (by omega) h18 (by omega)],rfl⟩
noncomputable def gD (w:Ws):D:=if acyW w=true then Em (groupsW w) else .sl (some true) []
theorem DJ (w:Ws) (hw:B4 w) (hl:w.K.length≤2000000):BW Try.prog 37 [.d (LY w)] (.tup [gD w,Ar (acyW w)]):=by
 have h:=Lr w hw hl;unfold gD
 by_cases hc:acyW w=true
 ·rw [if_pos hc] at h⊢;rw [hc];exact h
 ·rw [if_neg hc] at h⊢;rw [Bool.eq_false_iff.2 hc];exact h
set_option maxHeartbeats 4000000 in
theorem Kl (w:Ws) (hw:B4 w) (hK:w.K.length≤1000000) (l:Lw):BW Try.prog 35 [.d (LY w),.d (OA l)] (.tup [LY (lnkW w l).1,Bw (lnkW w l).2]):=by
 have hfew:=hw.few;refine DI Try.func35 Z Z Try.ntmps35 Z Z Z fun F hF=>(AE ?_);refine AH (U (J2 20 Z Z Z Z Z Z Z) (U (J2 21 Z Z Z Z Z Z Z) (U (IP 22 EN Z Z Z Z) (AD Z Z (AF (AE (AE (AH ?_))))))))
 first | refine J (A2 rfl K5 Z Z Z) ?_ | refine J (A4 rfl K5 Z Z Z) ?_ | refine J (A5 rfl K5 Z Z Z) ?_ | refine J (A3 rfl K5 Z Z Z) ?_ | refine J (A1 rfl K5 Z Z Z) ?_
 first | refine J (AZ Z Z Ba rfl) ?_ | refine J (AX Z Z Z Ba rfl) ?_ | refine J (AY Z Z (rfl) rfl Ba rfl) ?_
 first | refine J (Jh Z Z Z) ?_ | refine J (Jg Z Z Z) ?_ | refine J (JZ Z Z Z) ?_ | refine J (Ji Try.underlying3 Z Z Z) ?_ | refine J (Je Try.underlying3 Z Z Z) ?_ | refine J (st_neqN Try.underlying3 Z Z) ?_ | refine J (st_neqPr Try.underlying3 Z Z) ?_ | refine J (st_neqMz Try.underlying3 Z Z) ?_ | refine J (Jd Try.underlying3 Z Z Z) ?_ | refine J (st_neqFN Try.underlying3 Z Z) ?_
 refine AC Z Z ?_
 first | refine K6 12 rfl (fun h12=>?_) (fun h12=>?_) | refine J0 12 rfl (fun h12=>?_) (fun h12=>?_)
 ·refine Ab Z Z Z ?_
  first | refine J (A2 rfl K5 Z Z Z) ?_ | refine J (A4 rfl K5 Z Z Z) ?_ | refine J (A5 rfl K5 Z Z Z) ?_ | refine J (A3 rfl K5 Z Z Z) ?_ | refine J (A1 rfl K5 Z Z Z) ?_
  refine Ab Z Z Z ?_
  first | refine J (AZ Z Z Ba rfl) ?_ | refine J (AX Z Z Z Ba rfl) ?_ | refine J (AY Z Z (rfl) rfl Ba rfl) ?_
  refine Ab Z Z Z ?_
  first | refine J (Jh Z Z Z) ?_ | refine J (Jg Z Z Z) ?_ | refine J (JZ Z Z Z) ?_ | refine J (Ji Try.underlying3 Z Z Z) ?_ | refine J (Je Try.underlying3 Z Z Z) ?_ | refine J (st_neqN Try.underlying3 Z Z) ?_ | refine J (st_neqPr Try.underlying3 Z Z) ?_ | refine J (st_neqMz Try.underlying3 Z Z) ?_ | refine J (Jd Try.underlying3 Z Z Z) ?_ | refine J (st_neqFN Try.underlying3 Z Z) ?_
  refine J (Hz Z Z Z Z) (AF ?_)
  first | refine BA rfl (fun h16=>?_) (fun h16=>?_) | refine Aw rfl (fun h16=>?_) (fun h16=>?_)
  ·refine AE (AH ?_)
   first | refine J (B3 Z Z AR rfl) ?_ | refine J (BZ Z Z AR Z Z Z) ?_ | refine J (B1 Z Z (rfl) rfl AR rfl) ?_
   refine U (Bu Z Z Z Z Z Z Z Bd) (AD Z Z (AF (Av ?_)));exact ⟨_,[],[],As rfl,rfl,rfl,by rw [Q5 h12 h16],rfl⟩
  ·refine Aj (AE (AE (AH ?_)))
   first | refine J (A2 rfl A7 Z Z Z) ?_ | refine J (A4 rfl A7 Z Z Z) ?_ | refine J (A5 rfl A7 Z Z Z) ?_ | refine J (A3 rfl A7 Z Z Z) ?_ | refine J (A1 rfl A7 Z Z Z) ?_
   first | refine J (AZ Z Z AK rfl) ?_ | refine J (AX Z Z Z AK rfl) ?_ | refine J (AY Z Z (rfl) rfl AK rfl) ?_
   first | refine J (A2 rfl CG Z Z Z) ?_ | refine J (A4 rfl CG Z Z Z) ?_ | refine J (A5 rfl CG Z Z Z) ?_ | refine J (A3 rfl CG Z Z Z) ?_ | refine J (A1 rfl CG Z Z Z) ?_
   first | refine J (AZ Z Z AW rfl) ?_ | refine J (AX Z Z Z AW rfl) ?_ | refine J (AY Z Z (rfl) rfl AW rfl) ?_
   refine J (DU (Bg w.R l.f (by omega)) Z Z) ?_
   first | refine J (FB Z Z) ?_ | refine J (FA Z Z) ?_
   refine AC Z Z ?_
   first | refine K6 24 rfl (fun h24=>?_) (fun h24=>?_) | refine J0 24 rfl (fun h24=>?_) (fun h24=>?_)
   ·refine BL Z Z Z Z (BL Z Z Z Z ?_);refine BL Z Z Z Z (BL Z Z Z Z (BL Z Z Z Z (BL Z Z Z Z (J (Hz Z Z Z Z) (AF (K0 Z Z (AE (AH ?_))))))))
    first | refine J (B3 Z Z AR rfl) ?_ | refine J (BZ Z Z AR Z Z Z) ?_ | refine J (B1 Z Z (rfl) rfl AR rfl) ?_
    refine U (Bu Z Z Z Z Z Z Z Bd) (AD Z Z (AF (Av ?_)));have h9:lnkW w l=(w,9):=MQ (by first | exact .inl (Classical.not_not.1 h12) | exact .inr (Classical.not_not.1 h16)) (by first | exact .inl h24 | exact .inr h31);exact ⟨_,[],[],As rfl,rfl,rfl,by rw [h9],rfl⟩
   ·refine Ab Z Z Z ?_
    first | refine J (A2 rfl A7 Z Z Z) ?_ | refine J (A4 rfl A7 Z Z Z) ?_ | refine J (A5 rfl A7 Z Z Z) ?_ | refine J (A3 rfl A7 Z Z Z) ?_ | refine J (A1 rfl A7 Z Z Z) ?_
    refine Ab Z Z Z ?_
    first | refine J (AZ Z Z AK rfl) ?_ | refine J (AX Z Z Z AK rfl) ?_ | refine J (AY Z Z (rfl) rfl AK rfl) ?_
    refine Ab Z Z Z ?_
    first | refine J (A2 rfl Cn Z Z Z) ?_ | refine J (A4 rfl Cn Z Z Z) ?_ | refine J (A5 rfl Cn Z Z Z) ?_ | refine J (A3 rfl Cn Z Z Z) ?_ | refine J (A1 rfl Cn Z Z Z) ?_
    refine Ab Z Z Z ?_
    first | refine J (AZ Z Z AW rfl) ?_ | refine J (AX Z Z Z AW rfl) ?_ | refine J (AY Z Z (rfl) rfl AW rfl) ?_
    refine Ab Z Z Z (J (DU (Bg w.R l.r (by omega)) Z Z) (Ab Z Z Z ?_))
    first | refine J (FB Z Z) ?_ | refine J (FA Z Z) ?_
    refine J (HO Z Z Z Z) (AF ?_)
    first | refine BA rfl (fun h31=>?_) (fun h31=>?_) | refine Aw rfl (fun h31=>?_) (fun h31=>?_)
    ·refine AE (AH ?_)
     first | refine J (B3 Z Z AR rfl) ?_ | refine J (BZ Z Z AR Z Z Z) ?_ | refine J (B1 Z Z (rfl) rfl AR rfl) ?_
     refine U (Bu Z Z Z Z Z Z Z Bd) (AD Z Z (AF (Av ?_)));have h9:lnkW w l=(w,9):=MQ (by first | exact .inl (Classical.not_not.1 h12) | exact .inr (Classical.not_not.1 h16)) (by first | exact .inl h24 | exact .inr h31);exact ⟨_,[],[],As rfl,rfl,rfl,by rw [h9],rfl⟩
    ·refine Aj (AE (AE ?_));have ht:l.t=0∨l.t=1:=by first | exact .inl (Classical.not_not.1 h12) | exact .inr (Classical.not_not.1 h16)
     have hfR:l.f∈w.R:=Classical.not_not.1 h24;have hrR:l.r∈w.R:=Classical.not_not.1 h31;refine AH ?_
     first | refine J (A2 rfl CG Z Z Z) ?_ | refine J (A4 rfl CG Z Z Z) ?_ | refine J (A5 rfl CG Z Z Z) ?_ | refine J (A3 rfl CG Z Z Z) ?_ | refine J (A1 rfl CG Z Z Z) ?_
     first | refine J (AZ Z Z AW rfl) ?_ | refine J (AX Z Z Z AW rfl) ?_ | refine J (AY Z Z (rfl) rfl AW rfl) ?_
     first | refine J (A2 rfl Cn Z Z Z) ?_ | refine J (A4 rfl Cn Z Z Z) ?_ | refine J (A5 rfl Cn Z Z Z) ?_ | refine J (A3 rfl Cn Z Z Z) ?_ | refine J (A1 rfl Cn Z Z Z) ?_
     first | refine J (AZ Z Z AW rfl) ?_ | refine J (AX Z Z Z AW rfl) ?_ | refine J (AY Z Z (rfl) rfl AW rfl) ?_
     first | refine J (GC Z Z Z) ?_ | refine J (GA Z Z Z) ?_ | refine J (F5 Z Z Z) ?_ | refine J (Ft Try.underlying9 Z Z Z) ?_ | refine J (Fw Try.underlying9 Z Z Z) ?_ | refine J (Fv Try.underlying9 Z Z) ?_ | refine J (Fz Try.underlying9 Z Z) ?_ | refine J (Fy Try.underlying9 Z Z) ?_ | refine J (Fu Try.underlying9 Z Z Z) ?_ | refine J (Fx Try.underlying9 Z Z) ?_
     refine AF ?_
     first | refine BA rfl (fun h37=>?_) (fun h37=>?_) | refine Aw rfl (fun h37=>?_) (fun h37=>?_)
     ·refine AE (AH ?_)
      first | refine J (B3 Z Z AR rfl) ?_ | refine J (BZ Z Z AR Z Z Z) ?_ | refine J (B1 Z Z (rfl) rfl AR rfl) ?_
      refine U (Bu Z Z Z Z Z Z Z Bd) (AD Z Z (AF (Av ?_)));exact ⟨_,[],[],As rfl,rfl,rfl,by rw [KJ ht hfR hrR h37],rfl⟩
     ·refine Aj (AE (AE (AH ?_)))
      first | refine J (B3 Z Z AR rfl) ?_ | refine J (BZ Z Z AR Z Z Z) ?_ | refine J (B1 Z Z (rfl) rfl AR rfl) ?_
      first | refine J (B3 Z Z At rfl) ?_ | refine J (BZ Z Z At Z Z Z) ?_ | refine J (B1 Z Z (rfl) rfl At rfl) ?_
      refine J (DU (N4 w l (by omega)) Z Z) (AF ?_)
      first | refine BA rfl (fun h41=>?_) (fun h41=>?_) | refine Aw rfl (fun h41=>?_) (fun h41=>?_)
      ·refine AE (AH ?_)
       first | refine J (B3 Z Z AR rfl) ?_ | refine J (BZ Z Z AR Z Z Z) ?_ | refine J (B1 Z Z (rfl) rfl AR rfl) ?_
       refine U (Bu Z Z Z Z Z Z Z Bd) (AD Z Z (AF (Av ?_)));exact ⟨_,[],[],As rfl,rfl,rfl,by rw [lnk7 ht hfR hrR h37 h41],rfl⟩
      ·refine Aj (AE ?_);have hok1:=hw.with_ ht hfR hrR h37 h41;refine Fs [[],[0],[],[],[3],[2,3,4],[],[6],[2,3,4,5,6,7],[0,1,2,3,4,5,6,7,8],[],[0,1,2,3,4,5,6,7,8,9,10]] mixed rfl (E6 ?_)
       first | refine AG [2] [] Z Z (fun _=>AB (A2 rfl A7 Z Z Z)) ?_ | refine AI [2] Z Z (fun _=>AB (A2 rfl A7 Z Z Z)) ?_ | refine AG [2] [] Z Z (fun _=>AB (A4 rfl A7 Z Z Z)) ?_ | refine AI [2] Z Z (fun _=>AB (A4 rfl A7 Z Z Z)) ?_ | refine AG [2] [] Z Z (fun _=>AB (A5 rfl A7 Z Z Z)) ?_ | refine AI [2] Z Z (fun _=>AB (A5 rfl A7 Z Z Z)) ?_ | refine AG [2] [] Z Z (fun _=>AB (A3 rfl A7 Z Z Z)) ?_ | refine AI [2] Z Z (fun _=>AB (A3 rfl A7 Z Z Z)) ?_ | refine AG [2] [] Z Z (fun _=>AB (A1 rfl A7 Z Z Z)) ?_ | refine AI [2] Z Z (fun _=>AB (A1 rfl A7 Z Z Z)) ?_
       first | refine AG [43] [20] Z Z (fun _=>AB (AZ Z Z AK rfl)) ?_ | refine AG [43] [20] Z Z (fun _=>AB (AX Z Z Z AK rfl)) ?_ | refine AG [43] [20] Z Z (fun _=>AB (AY Z Z (rfl) rfl AK rfl)) ?_
       refine CE [] [30] [(45,_)] Z Z (fun _=>IM (Ga 30 FC Z Z Z Z Z Z Z Z)) (.inr ⟨45,_,rfl,rfl,rfl,rfl,rfl⟩) Z Z Z Z Z ?_
       first | refine AG [2] [] Z Z (fun _=>AB (A2 rfl Ag Z Z Z)) ?_ | refine AI [2] Z Z (fun _=>AB (A2 rfl Ag Z Z Z)) ?_ | refine AG [2] [] Z Z (fun _=>AB (A4 rfl Ag Z Z Z)) ?_ | refine AI [2] Z Z (fun _=>AB (A4 rfl Ag Z Z Z)) ?_ | refine AG [2] [] Z Z (fun _=>AB (A5 rfl Ag Z Z Z)) ?_ | refine AI [2] Z Z (fun _=>AB (A5 rfl Ag Z Z Z)) ?_ | refine AG [2] [] Z Z (fun _=>AB (A3 rfl Ag Z Z Z)) ?_ | refine AI [2] Z Z (fun _=>AB (A3 rfl Ag Z Z Z)) ?_ | refine AG [2] [] Z Z (fun _=>AB (A1 rfl Ag Z Z Z)) ?_ | refine AI [2] Z Z (fun _=>AB (A1 rfl Ag Z Z Z)) ?_
       first | refine AG [46] [20] Z Z (fun _=>AB (AZ Z Z Ay rfl)) ?_ | refine AG [46] [20] Z Z (fun _=>AB (AX Z Z Z Ay rfl)) ?_ | refine AG [46] [20] Z Z (fun _=>AB (AY Z Z (rfl) rfl Ay rfl)) ?_
       refine CE [45,47] [30] [(48,_)] Z Z (fun _=>IM (Jf (emb:=OA) [] w.K Z Z Z Z Z Z (fun _=>rfl) FC (by show (0+w.K.length)*40≤_;omega) Z Z Z Z)) (.inr ⟨48,_,rfl,rfl,rfl,rfl,rfl⟩) Z Z Z Z Z ?_
       first | refine AG [3] [21] Z Z (fun _=>AB (B3 Z Z At rfl)) ?_ | refine AG [3] [21] Z Z (fun _=>AB (BZ Z Z At Z Z Z)) ?_ | refine AG [3] [21] Z Z (fun _=>AB (B1 Z Z (rfl) rfl At rfl)) ?_
       refine CE [49] [31] [(50,_)] Z Z (fun _=>IM (Ga 31 FC Z Z Z Z Z Z Z Z)) (.inr ⟨50,_,rfl,rfl,rfl,rfl,rfl⟩) Z Z Z Z Z ?_
       first | refine JK [45] [48,50] [30,31] [(51,_)] Z Z (fun _=>IM (I2 (w.K) ([l]) Z Z Z Z Z Z Z Z FC (by simp only [List.length_singleton];omega) Z Z Z Z)) (.inr ⟨51,_,rfl,rfl,rfl,rfl,rfl⟩) Z Z Z Z Z ?_ | refine JK [45] [48,50] [30,31] [(51,_)] Z Z (fun _=>IM (Jf (w.K) ([l]) Z Z Z Z Z Z (fun _=>rfl) FC (by simp only [List.length_singleton];omega) Z Z Z Z)) (.inr ⟨51,_,rfl,rfl,rfl,rfl,rfl⟩) Z Z Z Z Z ?_
       first | refine AG [44,51] [] Z Z (fun _=>AB (Mr EN Lt Z Z Z)) ?_ | refine AI [44,51] Z Z (fun _=>AB (Mr EN Lt Z Z Z)) ?_
       refine CE [] [32] [(6,_)] Z Z (fun _=>IM (IP 32 EN Z Z Z Z)) (.inr ⟨6,_,rfl,rfl,rfl,rfl,rfl⟩) Z Z Z Z Z (E7 11 Z Z Z (Bq 12 Z Z (U (Bu Z Z Z Z Z Z Z Bd) (AF ⟨rfl,?_⟩))));refine FH (AE (AE (CU (ys:=(w.K++ [l]).map OA) 32 0 1 30 Z Z Z (Nat.le_of_eq (by rw [List.length_map])) (List.take_of_length_le (by rw [List.length_map];exact Nat.le_refl _)) Z Z Z Z Z Z (AH ?_))))
       first | refine J (B3 Z Z AR rfl) ?_ | refine J (BZ Z Z AR Z Z Z) ?_ | refine J (B1 Z Z (rfl) rfl AR rfl) ?_
       refine J (DU (DJ (BQ w l) hok1 (by show (w.K++ [l]).length≤_;rw [List.length_append,List.length_singleton];omega)) Z Z) (AC Z Z ?_)
       first | refine J (Bi Z Z Z) ?_ | refine J (Bj Z Z Z) ?_
       first | refine J (Bi Z Z Z) ?_ | refine J (Bj Z Z Z) ?_
       refine AD Z Z (AD Z Z (AF (AE ?_)));have h0:=NV ht hfR hrR h37 h41;refine AH (AC Z Z ?_)
       first | refine J (FB Z Z) ?_ | refine J (FA Z Z) ?_
       refine AF ?_
       first | refine BA rfl (fun h59=>?_) (fun h59=>?_) | refine Aw rfl (fun h59=>?_) (fun h59=>?_)
       ·refine AE (AH ?_)
        first | refine J (B3 Z Z AR rfl) ?_ | refine J (BZ Z Z AR Z Z Z) ?_ | refine J (B1 Z Z (rfl) rfl AR rfl) ?_
        refine U (Bu Z Z Z Z Z Z Z Bd) (AD Z Z (AF (Av ?_)));have hac:acyW (BQ w l)=false:=by simpa using h59
        exact ⟨_,[],[],As rfl,rfl,rfl,by rw [h0,hac];rfl,rfl⟩
       ·refine Aj (AE (AH ?_))
        first | refine J (B3 Z Z AR rfl) ?_ | refine J (BZ Z Z AR Z Z Z) ?_ | refine J (B1 Z Z (rfl) rfl AR rfl) ?_
        refine U (Bu Z Z Z Z Z Z Z Bd) (AD Z Z (AF (Av ?_)));have hac:acyW (BQ w l)=true:=by simpa using h59
        exact ⟨_,[],[],As rfl,rfl,rfl,by rw [h0,if_pos hac];rfl,rfl⟩
 ·refine BL Z Z Z Z ?_;refine BL Z Z Z Z (BL Z Z Z Z (J (HO Z Z Z Z) (AF (EI Z Z (Aj (AE (AE (AH ?_))))))))
  first | refine J (A2 rfl A7 Z Z Z) ?_ | refine J (A4 rfl A7 Z Z Z) ?_ | refine J (A5 rfl A7 Z Z Z) ?_ | refine J (A3 rfl A7 Z Z Z) ?_ | refine J (A1 rfl A7 Z Z Z) ?_
  first | refine J (AZ Z Z AK rfl) ?_ | refine J (AX Z Z Z AK rfl) ?_ | refine J (AY Z Z (rfl) rfl AK rfl) ?_
  first | refine J (A2 rfl CG Z Z Z) ?_ | refine J (A4 rfl CG Z Z Z) ?_ | refine J (A5 rfl CG Z Z Z) ?_ | refine J (A3 rfl CG Z Z Z) ?_ | refine J (A1 rfl CG Z Z Z) ?_
  first | refine J (AZ Z Z AW rfl) ?_ | refine J (AX Z Z Z AW rfl) ?_ | refine J (AY Z Z (rfl) rfl AW rfl) ?_
  refine J (DU (Bg w.R l.f (by omega)) Z Z) ?_
  first | refine J (FB Z Z) ?_ | refine J (FA Z Z) ?_
  refine AC Z Z ?_
  first | refine K6 24 rfl (fun h24=>?_) (fun h24=>?_) | refine J0 24 rfl (fun h24=>?_) (fun h24=>?_)
  ·refine BL Z Z Z Z (BL Z Z Z Z ?_);refine BL Z Z Z Z (BL Z Z Z Z (BL Z Z Z Z (BL Z Z Z Z (J (Hz Z Z Z Z) (AF (K0 Z Z (AE (AH ?_))))))))
   first | refine J (B3 Z Z AR rfl) ?_ | refine J (BZ Z Z AR Z Z Z) ?_ | refine J (B1 Z Z (rfl) rfl AR rfl) ?_
   refine U (Bu Z Z Z Z Z Z Z Bd) (AD Z Z (AF (Av ?_)));have h9:lnkW w l=(w,9):=MQ (by first | exact .inl (Classical.not_not.1 h12) | exact .inr (Classical.not_not.1 h16)) (by first | exact .inl h24 | exact .inr h31);exact ⟨_,[],[],As rfl,rfl,rfl,by rw [h9],rfl⟩
  ·refine Ab Z Z Z ?_
   first | refine J (A2 rfl A7 Z Z Z) ?_ | refine J (A4 rfl A7 Z Z Z) ?_ | refine J (A5 rfl A7 Z Z Z) ?_ | refine J (A3 rfl A7 Z Z Z) ?_ | refine J (A1 rfl A7 Z Z Z) ?_
   refine Ab Z Z Z ?_
   first | refine J (AZ Z Z AK rfl) ?_ | refine J (AX Z Z Z AK rfl) ?_ | refine J (AY Z Z (rfl) rfl AK rfl) ?_
   refine Ab Z Z Z ?_
   first | refine J (A2 rfl Cn Z Z Z) ?_ | refine J (A4 rfl Cn Z Z Z) ?_ | refine J (A5 rfl Cn Z Z Z) ?_ | refine J (A3 rfl Cn Z Z Z) ?_ | refine J (A1 rfl Cn Z Z Z) ?_
   refine Ab Z Z Z ?_
   first | refine J (AZ Z Z AW rfl) ?_ | refine J (AX Z Z Z AW rfl) ?_ | refine J (AY Z Z (rfl) rfl AW rfl) ?_
   refine Ab Z Z Z (J (DU (Bg w.R l.r (by omega)) Z Z) (Ab Z Z Z ?_))
   first | refine J (FB Z Z) ?_ | refine J (FA Z Z) ?_
   refine J (HO Z Z Z Z) (AF ?_)
   first | refine BA rfl (fun h31=>?_) (fun h31=>?_) | refine Aw rfl (fun h31=>?_) (fun h31=>?_)
   ·refine AE (AH ?_)
    first | refine J (B3 Z Z AR rfl) ?_ | refine J (BZ Z Z AR Z Z Z) ?_ | refine J (B1 Z Z (rfl) rfl AR rfl) ?_
    refine U (Bu Z Z Z Z Z Z Z Bd) (AD Z Z (AF (Av ?_)));have h9:lnkW w l=(w,9):=MQ (by first | exact .inl (Classical.not_not.1 h12) | exact .inr (Classical.not_not.1 h16)) (by first | exact .inl h24 | exact .inr h31);exact ⟨_,[],[],As rfl,rfl,rfl,by rw [h9],rfl⟩
   ·refine Aj (AE (AE ?_));have ht:l.t=0∨l.t=1:=by first | exact .inl (Classical.not_not.1 h12) | exact .inr (Classical.not_not.1 h16)
    have hfR:l.f∈w.R:=Classical.not_not.1 h24;have hrR:l.r∈w.R:=Classical.not_not.1 h31;refine AH ?_
    first | refine J (A2 rfl CG Z Z Z) ?_ | refine J (A4 rfl CG Z Z Z) ?_ | refine J (A5 rfl CG Z Z Z) ?_ | refine J (A3 rfl CG Z Z Z) ?_ | refine J (A1 rfl CG Z Z Z) ?_
    first | refine J (AZ Z Z AW rfl) ?_ | refine J (AX Z Z Z AW rfl) ?_ | refine J (AY Z Z (rfl) rfl AW rfl) ?_
    first | refine J (A2 rfl Cn Z Z Z) ?_ | refine J (A4 rfl Cn Z Z Z) ?_ | refine J (A5 rfl Cn Z Z Z) ?_ | refine J (A3 rfl Cn Z Z Z) ?_ | refine J (A1 rfl Cn Z Z Z) ?_
    first | refine J (AZ Z Z AW rfl) ?_ | refine J (AX Z Z Z AW rfl) ?_ | refine J (AY Z Z (rfl) rfl AW rfl) ?_
    first | refine J (GC Z Z Z) ?_ | refine J (GA Z Z Z) ?_ | refine J (F5 Z Z Z) ?_ | refine J (Ft Try.underlying9 Z Z Z) ?_ | refine J (Fw Try.underlying9 Z Z Z) ?_ | refine J (Fv Try.underlying9 Z Z) ?_ | refine J (Fz Try.underlying9 Z Z) ?_ | refine J (Fy Try.underlying9 Z Z) ?_ | refine J (Fu Try.underlying9 Z Z Z) ?_ | refine J (Fx Try.underlying9 Z Z) ?_
    refine AF ?_
    first | refine BA rfl (fun h37=>?_) (fun h37=>?_) | refine Aw rfl (fun h37=>?_) (fun h37=>?_)
    ·refine AE (AH ?_)
     first | refine J (B3 Z Z AR rfl) ?_ | refine J (BZ Z Z AR Z Z Z) ?_ | refine J (B1 Z Z (rfl) rfl AR rfl) ?_
     refine U (Bu Z Z Z Z Z Z Z Bd) (AD Z Z (AF (Av ?_)));exact ⟨_,[],[],As rfl,rfl,rfl,by rw [KJ ht hfR hrR h37],rfl⟩
    ·refine Aj (AE (AE (AH ?_)))
     first | refine J (B3 Z Z AR rfl) ?_ | refine J (BZ Z Z AR Z Z Z) ?_ | refine J (B1 Z Z (rfl) rfl AR rfl) ?_
     first | refine J (B3 Z Z At rfl) ?_ | refine J (BZ Z Z At Z Z Z) ?_ | refine J (B1 Z Z (rfl) rfl At rfl) ?_
     refine J (DU (N4 w l (by omega)) Z Z) (AF ?_)
     first | refine BA rfl (fun h41=>?_) (fun h41=>?_) | refine Aw rfl (fun h41=>?_) (fun h41=>?_)
     ·refine AE (AH ?_)
      first | refine J (B3 Z Z AR rfl) ?_ | refine J (BZ Z Z AR Z Z Z) ?_ | refine J (B1 Z Z (rfl) rfl AR rfl) ?_
      refine U (Bu Z Z Z Z Z Z Z Bd) (AD Z Z (AF (Av ?_)));exact ⟨_,[],[],As rfl,rfl,rfl,by rw [lnk7 ht hfR hrR h37 h41],rfl⟩
     ·refine Aj (AE ?_);have hok1:=hw.with_ ht hfR hrR h37 h41;refine Fs [[],[0],[],[],[3],[2,3,4],[],[6],[2,3,4,5,6,7],[0,1,2,3,4,5,6,7,8],[],[0,1,2,3,4,5,6,7,8,9,10]] mixed rfl (E6 ?_)
      first | refine AG [2] [] Z Z (fun _=>AB (A2 rfl A7 Z Z Z)) ?_ | refine AI [2] Z Z (fun _=>AB (A2 rfl A7 Z Z Z)) ?_ | refine AG [2] [] Z Z (fun _=>AB (A4 rfl A7 Z Z Z)) ?_ | refine AI [2] Z Z (fun _=>AB (A4 rfl A7 Z Z Z)) ?_ | refine AG [2] [] Z Z (fun _=>AB (A5 rfl A7 Z Z Z)) ?_ | refine AI [2] Z Z (fun _=>AB (A5 rfl A7 Z Z Z)) ?_ | refine AG [2] [] Z Z (fun _=>AB (A3 rfl A7 Z Z Z)) ?_ | refine AI [2] Z Z (fun _=>AB (A3 rfl A7 Z Z Z)) ?_ | refine AG [2] [] Z Z (fun _=>AB (A1 rfl A7 Z Z Z)) ?_ | refine AI [2] Z Z (fun _=>AB (A1 rfl A7 Z Z Z)) ?_
      first | refine AG [43] [20] Z Z (fun _=>AB (AZ Z Z AK rfl)) ?_ | refine AG [43] [20] Z Z (fun _=>AB (AX Z Z Z AK rfl)) ?_ | refine AG [43] [20] Z Z (fun _=>AB (AY Z Z (rfl) rfl AK rfl)) ?_
      refine CE [] [30] [(45,_)] Z Z (fun _=>IM (Ga 30 FC Z Z Z Z Z Z Z Z)) (.inr ⟨45,_,rfl,rfl,rfl,rfl,rfl⟩) Z Z Z Z Z ?_
      first | refine AG [2] [] Z Z (fun _=>AB (A2 rfl Ag Z Z Z)) ?_ | refine AI [2] Z Z (fun _=>AB (A2 rfl Ag Z Z Z)) ?_ | refine AG [2] [] Z Z (fun _=>AB (A4 rfl Ag Z Z Z)) ?_ | refine AI [2] Z Z (fun _=>AB (A4 rfl Ag Z Z Z)) ?_ | refine AG [2] [] Z Z (fun _=>AB (A5 rfl Ag Z Z Z)) ?_ | refine AI [2] Z Z (fun _=>AB (A5 rfl Ag Z Z Z)) ?_ | refine AG [2] [] Z Z (fun _=>AB (A3 rfl Ag Z Z Z)) ?_ | refine AI [2] Z Z (fun _=>AB (A3 rfl Ag Z Z Z)) ?_ | refine AG [2] [] Z Z (fun _=>AB (A1 rfl Ag Z Z Z)) ?_ | refine AI [2] Z Z (fun _=>AB (A1 rfl Ag Z Z Z)) ?_
      first | refine AG [46] [20] Z Z (fun _=>AB (AZ Z Z Ay rfl)) ?_ | refine AG [46] [20] Z Z (fun _=>AB (AX Z Z Z Ay rfl)) ?_ | refine AG [46] [20] Z Z (fun _=>AB (AY Z Z (rfl) rfl Ay rfl)) ?_
      refine CE [45,47] [30] [(48,_)] Z Z (fun _=>IM (Jf (emb:=OA) [] w.K Z Z Z Z Z Z (fun _=>rfl) FC (by show (0+w.K.length)*40≤_;omega) Z Z Z Z)) (.inr ⟨48,_,rfl,rfl,rfl,rfl,rfl⟩) Z Z Z Z Z ?_
      first | refine AG [3] [21] Z Z (fun _=>AB (B3 Z Z At rfl)) ?_ | refine AG [3] [21] Z Z (fun _=>AB (BZ Z Z At Z Z Z)) ?_ | refine AG [3] [21] Z Z (fun _=>AB (B1 Z Z (rfl) rfl At rfl)) ?_
      refine CE [49] [31] [(50,_)] Z Z (fun _=>IM (Ga 31 FC Z Z Z Z Z Z Z Z)) (.inr ⟨50,_,rfl,rfl,rfl,rfl,rfl⟩) Z Z Z Z Z ?_
      first | refine JK [45] [48,50] [30,31] [(51,_)] Z Z (fun _=>IM (I2 (w.K) ([l]) Z Z Z Z Z Z Z Z FC (by simp only [List.length_singleton];omega) Z Z Z Z)) (.inr ⟨51,_,rfl,rfl,rfl,rfl,rfl⟩) Z Z Z Z Z ?_ | refine JK [45] [48,50] [30,31] [(51,_)] Z Z (fun _=>IM (Jf (w.K) ([l]) Z Z Z Z Z Z (fun _=>rfl) FC (by simp only [List.length_singleton];omega) Z Z Z Z)) (.inr ⟨51,_,rfl,rfl,rfl,rfl,rfl⟩) Z Z Z Z Z ?_
      first | refine AG [44,51] [] Z Z (fun _=>AB (Mr EN Lt Z Z Z)) ?_ | refine AI [44,51] Z Z (fun _=>AB (Mr EN Lt Z Z Z)) ?_
      refine CE [] [32] [(6,_)] Z Z (fun _=>IM (IP 32 EN Z Z Z Z)) (.inr ⟨6,_,rfl,rfl,rfl,rfl,rfl⟩) Z Z Z Z Z (E7 11 Z Z Z (Bq 12 Z Z (U (Bu Z Z Z Z Z Z Z Bd) (AF ⟨rfl,?_⟩))));refine FH (AE (AE (CU (ys:=(w.K++ [l]).map OA) 32 0 1 30 Z Z Z (Nat.le_of_eq (by rw [List.length_map])) (List.take_of_length_le (by rw [List.length_map];exact Nat.le_refl _)) Z Z Z Z Z Z (AH ?_))))
      first | refine J (B3 Z Z AR rfl) ?_ | refine J (BZ Z Z AR Z Z Z) ?_ | refine J (B1 Z Z (rfl) rfl AR rfl) ?_
      refine J (DU (DJ (BQ w l) hok1 (by show (w.K++ [l]).length≤_;rw [List.length_append,List.length_singleton];omega)) Z Z) (AC Z Z ?_)
      first | refine J (Bi Z Z Z) ?_ | refine J (Bj Z Z Z) ?_
      first | refine J (Bi Z Z Z) ?_ | refine J (Bj Z Z Z) ?_
      refine AD Z Z (AD Z Z (AF (AE ?_)));have h0:=NV ht hfR hrR h37 h41;refine AH (AC Z Z ?_)
      first | refine J (FB Z Z) ?_ | refine J (FA Z Z) ?_
      refine AF ?_
      first | refine BA rfl (fun h59=>?_) (fun h59=>?_) | refine Aw rfl (fun h59=>?_) (fun h59=>?_)
      ·refine AE (AH ?_)
       first | refine J (B3 Z Z AR rfl) ?_ | refine J (BZ Z Z AR Z Z Z) ?_ | refine J (B1 Z Z (rfl) rfl AR rfl) ?_
       refine U (Bu Z Z Z Z Z Z Z Bd) (AD Z Z (AF (Av ?_)));have hac:acyW (BQ w l)=false:=by simpa using h59
       exact ⟨_,[],[],As rfl,rfl,rfl,by rw [h0,hac];rfl,rfl⟩
      ·refine Aj (AE (AH ?_))
       first | refine J (B3 Z Z AR rfl) ?_ | refine J (BZ Z Z AR Z Z Z) ?_ | refine J (B1 Z Z (rfl) rfl AR rfl) ?_
       refine U (Bu Z Z Z Z Z Z Z Bd) (AD Z Z (AF (Av ?_)));have hac:acyW (BQ w l)=true:=by simpa using h59
       exact ⟨_,[],[],As rfl,rfl,rfl,by rw [h0,if_pos hac];rfl,rfl⟩
theorem lw_neC (a b:Lw):(!Az (lwC a) (lwC b))=decide (¬a=b):=by rw [Q1];simp
def ID (l:Lw) (K:List Lw) (k:Nat):List Lw:=(K.take k).filter fun x=>!decide (x=l)
theorem Ph {l:Lw} {K:List Lw} {k:Nat} (hk:k<K.length) (h:¬K[k]=l):ID l K (k+1)=ID l K k++ [K[k]]:=by
 unfold ID;rw [List.take_succ_eq_append_getElem hk,List.filter_append];simp [h]
theorem O9 {l:Lw} {K:List Lw} {k:Nat} (hk:k<K.length) (h:K[k]=l):ID l K (k+1)=ID l K k:=by
 unfold ID;rw [List.take_succ_eq_append_getElem hk,List.filter_append];simp [h]
theorem Pg (l:Lw) (K:List Lw) (k:Nat):(ID l K k).length≤K.length:=by
 unfold ID;exact Nat.le_trans (List.length_filter_le _ _) (by rw [List.length_take];omega)
set_option maxHeartbeats 4000000 in
theorem Lp (w:Ws) (hw:B4 w) (hK:w.K.length≤1000000) (l:Lw):BW Try.prog 36 [.d (LY w),.d (OA l)] (.tup [LY (unlW w l).1,Bw (unlW w l).2]):=by
 have hfew:=hw.few;refine DI Try.func36 Z Z Try.ntmps36 Z Z Z fun F hF=>(AE ?_);refine AH (U (J2 20 Z Z Z Z Z Z Z) (U (J2 21 Z Z Z Z Z Z Z) (U (IP 22 EN Z Z Z Z) (AD Z Z (AF (AE (AE (AH ?_))))))))
 first | refine J (B3 Z Z AR rfl) ?_ | refine J (BZ Z Z AR Z Z Z) ?_ | refine J (B1 Z Z (rfl) rfl AR rfl) ?_
 first | refine J (B3 Z Z At rfl) ?_ | refine J (BZ Z Z At Z Z Z) ?_ | refine J (B1 Z Z (rfl) rfl At rfl) ?_
 refine J (DU (N4 w l (by omega)) Z Z) ?_
 first | refine J (FB Z Z) ?_ | refine J (FA Z Z) ?_
 refine AF ?_
 first | refine BA rfl (fun h13=>?_) (fun h13=>?_) | refine Aw rfl (fun h13=>?_) (fun h13=>?_)
 ·refine AE (AH ?_)
  first | refine J (B3 Z Z AR rfl) ?_ | refine J (BZ Z Z AR Z Z Z) ?_ | refine J (B1 Z Z (rfl) rfl AR rfl) ?_
  refine U (Bu Z Z Z Z Z Z Z Bd) (AD Z Z (AF (Av ?_)));exact ⟨_,[],[],As rfl,rfl,rfl,by rw [unl9 h13],rfl⟩
 ·refine Aj (AE ?_);have hlK:l∈w.K:=Classical.not_not.1 h13;have h0:=unl0 hlK;refine AH ?_
  first | refine J (A2 rfl A7 Z Z Z) ?_ | refine J (A4 rfl A7 Z Z Z) ?_ | refine J (A5 rfl A7 Z Z Z) ?_ | refine J (A3 rfl A7 Z Z Z) ?_ | refine J (A1 rfl A7 Z Z Z) ?_
  first | refine J (AZ Z Z AK rfl) ?_ | refine J (AX Z Z Z AK rfl) ?_ | refine J (AY Z Z (rfl) rfl AK rfl) ?_
  refine J (Mr EN Lt Z Z Z) (U (IP 32 EN Z Z Z Z) (U (Bu Z Z Z Z Z Z Z Bd) ?_));refine AF (AE (AE (AH (AD Z Z (AF (BU (D2 32 0 1 33 FC Z Z Z Z Z Z Z (Ev (α:=Nat×List Lw) (fun q=>⟨51,[(2,(.ptr 20 0 0)),(3,(.ptr 21 0 0)),(4,(.ptr 22 0 0)),(6,(.ptr 32 0 0)),(7,(.d (natD q.1)))],[JO 20 w,(21,[.blk 71 [.d (AU l.f),.d (Bw l.t),.d (AU l.r)]]),(22,[.blk 35 [.d (.sl (some true) []),.d (.sl (some true) [])]]),(32,[.blk 35 [.d (stsD w.R),.own 33 0 q.2.length]]),(33,[.rowD 71 3 (q.2.map OA)])]⟩) (fun q=>q.1≤w.K.length∧q.2=ID l w.K q.1) (fun q=>w.K.length - q.1) ((0,[])) (⟨Nat.zero_le _,rfl⟩) (Ax hF [20,21,22,32,33] Z Z ⟨rfl,rfl,rfl,rfl,rfl,trivial⟩) ?_))))))));rintro ⟨k,acc⟩ ⟨hk,hacc⟩;dsimp only at hk hacc⊢;refine AE (AE (AH (AC Z Z ?_)))
  first | refine J (A2 rfl Ag Z Z Z) ?_ | refine J (A4 rfl Ag Z Z Z) ?_ | refine J (A5 rfl Ag Z Z Z) ?_ | refine J (A3 rfl Ag Z Z Z) ?_ | refine J (A1 rfl Ag Z Z Z) ?_
  first | refine J (AZ Z Z Ay rfl) ?_ | refine J (AX Z Z Z Ay rfl) ?_ | refine J (AY Z Z (rfl) rfl Ay rfl) ?_
  refine J (CI rfl (List.length_map ..) Try.underlying33 rfl) ?_
  first | refine J (EG Z Z Z) ?_ | refine J (EK Z Z Z) ?_
  refine AF ?_
  first | refine BA rfl (fun h22=>?_) (fun h22=>?_) | refine Aw rfl (fun h22=>?_) (fun h22=>?_)
  ·refine Aj (AE (BU (AE ?_)));have hkl:k<w.K.length:=GR h22;have hal:acc.length≤w.K.length:=by rw [hacc];exact Pg _ _ _
   refine Fs [[],[0],[],[0,1,2],[0,1,2,3],[],[0,1,2,3,4,5]] mixed rfl (E6 ?_)
   first | refine AG [2] [] Z Z (fun _=>AB (A2 rfl Ag Z Z Z)) ?_ | refine AI [2] Z Z (fun _=>AB (A2 rfl Ag Z Z Z)) ?_ | refine AG [2] [] Z Z (fun _=>AB (A4 rfl Ag Z Z Z)) ?_ | refine AI [2] Z Z (fun _=>AB (A4 rfl Ag Z Z Z)) ?_ | refine AG [2] [] Z Z (fun _=>AB (A5 rfl Ag Z Z Z)) ?_ | refine AI [2] Z Z (fun _=>AB (A5 rfl Ag Z Z Z)) ?_ | refine AG [2] [] Z Z (fun _=>AB (A3 rfl Ag Z Z Z)) ?_ | refine AI [2] Z Z (fun _=>AB (A3 rfl Ag Z Z Z)) ?_ | refine AG [2] [] Z Z (fun _=>AB (A1 rfl Ag Z Z Z)) ?_ | refine AI [2] Z Z (fun _=>AB (A1 rfl Ag Z Z Z)) ?_
   first | refine AG [25] [20] Z Z (fun _=>AB (AZ Z Z Ay rfl)) ?_ | refine AG [25] [20] Z Z (fun _=>AB (AX Z Z Z Ay rfl)) ?_ | refine AG [25] [20] Z Z (fun _=>AB (AY Z Z (rfl) rfl Ay rfl)) ?_
   first | refine AG [7] [] Z Z (fun _=>AB (Ah Z Z)) ?_ | refine AI [7] Z Z (fun _=>AB (Ah Z Z)) ?_
   first | refine AG [26,27] [] Z Z (fun _=>AB (BC (k) Z Z (rfl) (DN hkl) Try.underlying33 rfl Ca rfl)) ?_ | refine AI [26,27] Z Z (fun _=>AB (BC (k) Z Z (rfl) (DN hkl) Try.underlying33 rfl Ca rfl)) ?_ | refine AG [26,27] [] Z Z (fun _=>AB (BD (k) Z Z (rfl) (DN hkl) rfl Try.underlying33 Ca rfl)) ?_ | refine AI [26,27] Z Z (fun _=>AB (BD (k) Z Z (rfl) (DN hkl) rfl Try.underlying33 Ca rfl)) ?_
   first | refine AG [28] [] Z Z (fun _=>AB (B3 Z Z At rfl)) ?_ | refine AI [28] Z Z (fun _=>AB (B3 Z Z At rfl)) ?_ | refine AG [28] [] Z Z (fun _=>AB (BZ Z Z At Z Z Z)) ?_ | refine AI [28] Z Z (fun _=>AB (BZ Z Z At Z Z Z)) ?_ | refine AG [28] [] Z Z (fun _=>AB (B1 Z Z (rfl) rfl At rfl)) ?_ | refine AI [28] Z Z (fun _=>AB (B1 Z Z (rfl) rfl At rfl)) ?_
   first | refine AG [3] [21] Z Z (fun _=>AB (B3 Z Z At rfl)) ?_ | refine AG [3] [21] Z Z (fun _=>AB (BZ Z Z At Z Z Z)) ?_ | refine AG [3] [21] Z Z (fun _=>AB (B1 Z Z (rfl) rfl At rfl)) ?_
   refine E7 6 Z Z Z (Bq 7 Z Z (J (P8 (la:=lwC w.K[k]) (lb:=lwC l) (ds:=lwT) (by kernel_rfl) (by kernel_rfl) (by kernel_rfl) Z Z Z Z (HC _) (HC _) (lw_neC _ _) rfl) (AF ⟨rfl,?_⟩)));refine FH ?_
   first | refine BA rfl (fun h31=>?_) (fun h31=>?_) | refine Aw rfl (fun h31=>?_) (fun h31=>?_)
   ·refine Fs [[],[0],[],[2],[],[2,3,4],[2,3,4,5],[2,3,4,5,6],[0,1,2,3,4,5,6,7],[0,1,2,3,4,5,6,7,8],[0,1,2,3,4,5,6,7,8,9]] mixed rfl (E6 ?_)
    first | refine AG [6] [] Z Z (fun _=>AB (A2 rfl Ag Z Z Z)) ?_ | refine AI [6] Z Z (fun _=>AB (A2 rfl Ag Z Z Z)) ?_ | refine AG [6] [] Z Z (fun _=>AB (A4 rfl Ag Z Z Z)) ?_ | refine AI [6] Z Z (fun _=>AB (A4 rfl Ag Z Z Z)) ?_ | refine AG [6] [] Z Z (fun _=>AB (A5 rfl Ag Z Z Z)) ?_ | refine AI [6] Z Z (fun _=>AB (A5 rfl Ag Z Z Z)) ?_ | refine AG [6] [] Z Z (fun _=>AB (A3 rfl Ag Z Z Z)) ?_ | refine AI [6] Z Z (fun _=>AB (A3 rfl Ag Z Z Z)) ?_ | refine AG [6] [] Z Z (fun _=>AB (A1 rfl Ag Z Z Z)) ?_ | refine AI [6] Z Z (fun _=>AB (A1 rfl Ag Z Z Z)) ?_
    first | refine AG [32] [32] Z Z (fun _=>AB (AZ Z Z Ay rfl)) ?_ | refine AG [32] [32] Z Z (fun _=>AB (AX Z Z Z Ay rfl)) ?_ | refine AG [32] [32] Z Z (fun _=>AB (AY Z Z (rfl) rfl Ay rfl)) ?_
    first | refine AG [2] [] Z Z (fun _=>AB (A2 rfl Ag Z Z Z)) ?_ | refine AI [2] Z Z (fun _=>AB (A2 rfl Ag Z Z Z)) ?_ | refine AG [2] [] Z Z (fun _=>AB (A4 rfl Ag Z Z Z)) ?_ | refine AI [2] Z Z (fun _=>AB (A4 rfl Ag Z Z Z)) ?_ | refine AG [2] [] Z Z (fun _=>AB (A5 rfl Ag Z Z Z)) ?_ | refine AI [2] Z Z (fun _=>AB (A5 rfl Ag Z Z Z)) ?_ | refine AG [2] [] Z Z (fun _=>AB (A3 rfl Ag Z Z Z)) ?_ | refine AI [2] Z Z (fun _=>AB (A3 rfl Ag Z Z Z)) ?_ | refine AG [2] [] Z Z (fun _=>AB (A1 rfl Ag Z Z Z)) ?_ | refine AI [2] Z Z (fun _=>AB (A1 rfl Ag Z Z Z)) ?_
    first | refine AG [34] [20] Z Z (fun _=>AB (AZ Z Z Ay rfl)) ?_ | refine AG [34] [20] Z Z (fun _=>AB (AX Z Z Z Ay rfl)) ?_ | refine AG [34] [20] Z Z (fun _=>AB (AY Z Z (rfl) rfl Ay rfl)) ?_
    first | refine AG [7] [] Z Z (fun _=>AB (Ah Z Z)) ?_ | refine AI [7] Z Z (fun _=>AB (Ah Z Z)) ?_
    first | refine AG [35,36] [] Z Z (fun _=>AB (BC (k) Z Z (rfl) (DN hkl) Try.underlying33 rfl Ca rfl)) ?_ | refine AI [35,36] Z Z (fun _=>AB (BC (k) Z Z (rfl) (DN hkl) Try.underlying33 rfl Ca rfl)) ?_ | refine AG [35,36] [] Z Z (fun _=>AB (BD (k) Z Z (rfl) (DN hkl) rfl Try.underlying33 Ca rfl)) ?_ | refine AI [35,36] Z Z (fun _=>AB (BD (k) Z Z (rfl) (DN hkl) rfl Try.underlying33 Ca rfl)) ?_
    first | refine AG [37] [] Z Z (fun _=>AB (B3 Z Z At rfl)) ?_ | refine AI [37] Z Z (fun _=>AB (B3 Z Z At rfl)) ?_ | refine AG [37] [] Z Z (fun _=>AB (BZ Z Z At Z Z Z)) ?_ | refine AI [37] Z Z (fun _=>AB (BZ Z Z At Z Z Z)) ?_ | refine AG [37] [] Z Z (fun _=>AB (B1 Z Z (rfl) rfl At rfl)) ?_ | refine AI [37] Z Z (fun _=>AB (B1 Z Z (rfl) rfl At rfl)) ?_
    refine CE [38] [34] [(39,_)] Z Z (fun _=>IM (Ga 34 FC Z Z Z Z Z Z Z Z)) (.inr ⟨39,_,rfl,rfl,rfl,rfl,rfl⟩) Z Z Z Z Z (E7 8 Z Z Z (Bq 9 Z Z ?_))
    first | refine U (I2 (acc) ([w.K[k]]) Z Z Z Z Z Z Z Z FC (by simp only [List.length_singleton];omega) Z Z Z Z) ?_ | refine U (Jf (acc) ([w.K[k]]) Z Z Z Z Z Z (fun _=>rfl) FC (by simp only [List.length_singleton];omega) Z Z Z Z) ?_
    refine AF ⟨rfl,?_⟩;refine Bq 10 Z Z ?_
    first | refine J (A2 rfl Ag Z Z Z) ?_ | refine J (A4 rfl Ag Z Z Z) ?_ | refine J (A5 rfl Ag Z Z Z) ?_ | refine J (A3 rfl Ag Z Z Z) ?_ | refine J (A1 rfl Ag Z Z Z) ?_
    refine AF ⟨rfl,?_⟩;refine Bq 11 Z Z (U (Bu Z Z Z Z Z Z Z sz33) (AF ⟨rfl,?_⟩));refine FH (AH (AC Z Z (J (C8 Z Z (IntWalk.i64_in _ (by omega)) rfl) (AD Z Z (AF ?_)))));exact ⟨(k+1,acc++ [w.K[k]]),⟨hkl,by show _=ID l w.K (k+1);rw [Ph hkl h31,hacc]⟩,by show w.K.length - (k+1)<w.K.length - k;omega,Ax hF [20,21,22,32,33] rfl (rfl) ⟨rfl,rfl,rfl,rfl,rfl,trivial⟩⟩
   ·refine Aj (AH (AC Z Z (J (C8 Z Z (IntWalk.i64_in _ (by omega)) rfl) (AD Z Z (AF ?_)))));exact ⟨(k+1,acc),⟨hkl,by show _=ID l w.K (k+1);rw [O9 hkl (Classical.not_not.1 h31),hacc]⟩,by show w.K.length - (k+1)<w.K.length - k;omega,Ax hF [20,21,22,32,33] rfl (rfl) ⟨rfl,rfl,rfl,rfl,rfl,trivial⟩⟩
  ·refine D7 (AE (AE ?_));have hke:k=w.K.length:=by have:=h22;omega
   have hac:acc=(CY w l).K:=by rw [hacc,hke];unfold ID CY;rw [List.take_length]
   refine CU (ys:=acc.map OA) 32 0 1 33 Z Z Z (Nat.le_of_eq (by rw [List.length_map])) (List.take_of_length_le (by rw [List.length_map];exact Nat.le_refl _)) Z Z Z Z Z Z ?_;rw [hac];refine AH ?_
   first | refine J (B3 Z Z AR rfl) ?_ | refine J (BZ Z Z AR Z Z Z) ?_ | refine J (B1 Z Z (rfl) rfl AR rfl) ?_
   refine J (DU (DJ (CY w l) (hw.sans l) (Nat.le_trans (List.length_filter_le _ _) (by omega))) Z Z) (AC Z Z ?_)
   first | refine J (Bi Z Z Z) ?_ | refine J (Bj Z Z Z) ?_
   first | refine J (Bi Z Z Z) ?_ | refine J (Bj Z Z Z) ?_
   refine AD Z Z (AD Z Z (AF (AE (AH (AC Z Z ?_)))))
   first | refine J (FB Z Z) ?_ | refine J (FA Z Z) ?_
   refine AF ?_
   first | refine BA rfl (fun h48=>?_) (fun h48=>?_) | refine Aw rfl (fun h48=>?_) (fun h48=>?_)
   ·refine AE (AH ?_)
    first | refine J (B3 Z Z AR rfl) ?_ | refine J (BZ Z Z AR Z Z Z) ?_ | refine J (B1 Z Z (rfl) rfl AR rfl) ?_
    refine U (Bu Z Z Z Z Z Z Z Bd) (AD Z Z (AF (Av ?_)));have hc:acyW (CY w l)=false:=by simpa using h48
    exact ⟨_,[],[],As rfl,rfl,rfl,by rw [h0,hc];rfl,rfl⟩
   ·refine Aj (AE (AH ?_))
    first | refine J (B3 Z Z AR rfl) ?_ | refine J (BZ Z Z AR Z Z Z) ?_ | refine J (B1 Z Z (rfl) rfl AR rfl) ?_
    refine U (Bu Z Z Z Z Z Z Z Bd) (AD Z Z (AF (Av ?_)));have hc:acyW (CY w l)=true:=by simpa using h48
    exact ⟨_,[],[],As rfl,rfl,rfl,by rw [h0,if_pos hc];rfl,rfl⟩
def II (x:St) (R:List St) (k:Nat):List St:=(R.take k).filter fun y=>!decide (y=x)
theorem Qw {x:St} {R:List St} {k:Nat} (hk:k<R.length) (h:¬R[k]=x):II x R (k+1)=II x R k++ [R[k]]:=by
 unfold II;rw [List.take_succ_eq_append_getElem hk,List.filter_append];simp [h]
theorem PH {x:St} {R:List St} {k:Nat} (hk:k<R.length) (h:R[k]=x):II x R (k+1)=II x R k:=by
 unfold II;rw [List.take_succ_eq_append_getElem hk,List.filter_append];simp [h]
theorem Qv (x:St) (R:List St) (k:Nat):(II x R k).length≤R.length:=by
 unfold II;exact Nat.le_trans (List.length_filter_le _ _) (by rw [List.length_take];omega)
def Hc (x:St) (K:List Lw) (k:Nat):List Lw:=(K.take k).filter fun l=>!decide (l.f=x) && !decide (l.r=x)
theorem Qy {x:St} {K:List Lw} {k:Nat} (hk:k<K.length) (h1:¬K[k].f=x) (h2:¬K[k].r=x):Hc x K (k+1)=Hc x K k++ [K[k]]:=by
 unfold Hc;rw [List.take_succ_eq_append_getElem hk,List.filter_append];simp [h1,h2]
theorem KW {x:St} {K:List Lw} {k:Nat} (hk:k<K.length) (h:K[k].f=x∨K[k].r=x):Hc x K (k+1)=Hc x K k:=by
 unfold Hc;rw [List.take_succ_eq_append_getElem hk,List.filter_append];rcases h with h | h<;>simp [h]
theorem Qx (x:St) (K:List Lw) (k:Nat):(Hc x K k).length≤K.length:=by
 unfold Hc;exact Nat.le_trans (List.length_filter_le _ _) (by rw [List.length_take];omega)
set_option maxHeartbeats 4000000 in
theorem Lq (w:Ws) (hw:B4 w) (hK:w.K.length≤1000000) (x:St):BW Try.prog 27 [.d (LY w),.d (AU x)] (.tup [LY (remW w x).1,Bw (remW w x).2]):=by
 have hfew:=hw.few;refine DI Try.func27 Z Z Try.ntmps27 Z Z Z fun F hF=>?_;refine AE (AH (U (J2 20 Z Z Z Z Z Z Z) (U (IP 21 EN Z Z Z Z) (AD Z Z (AF (AE (AE (AH ?_))))))))
 first | refine J (A2 rfl A7 Z Z Z) ?_ | refine J (A4 rfl A7 Z Z Z) ?_ | refine J (A5 rfl A7 Z Z Z) ?_ | refine J (A3 rfl A7 Z Z Z) ?_ | refine J (A1 rfl A7 Z Z Z) ?_
 first | refine J (AZ Z Z AK rfl) ?_ | refine J (AX Z Z Z AK rfl) ?_ | refine J (AY Z Z (rfl) rfl AK rfl) ?_
 refine AC Z Z (J (DU (Bg w.R x (by omega)) Z Z) ?_)
 first | refine J (FB Z Z) ?_ | refine J (FA Z Z) ?_
 refine AF ?_
 first | refine BA rfl (fun h15=>?_) (fun h15=>?_) | refine Aw rfl (fun h15=>?_) (fun h15=>?_)
 ·refine AE (AH ?_)
  first | refine J (B3 Z Z AR rfl) ?_ | refine J (BZ Z Z AR Z Z Z) ?_ | refine J (B1 Z Z (rfl) rfl AR rfl) ?_
  refine U (Bu Z Z Z Z Z Z Z Bd) (AD Z Z (AF (Av ?_)));exact ⟨_,[],[],As rfl,rfl,rfl,by rw [rem9 h15],rfl⟩
 ·refine Aj (AE ?_);have hxR:x∈w.R:=Classical.not_not.1 h15;have h0:=rem0 hxR;refine AH (J (Mr EN Lt Z Z Z) (U (IP 32 EN Z Z Z Z) (U (Bu Z Z Z Z Z Z Z Bd) ?_)));refine AF (AE (AE (AH (AD Z Z (AF (BU (D2 32 0 0 33 B7 Z Z Z Z Z Z Z (Ev (α:=Nat×List St) (fun q=>⟨86,[(1,.d (AU x)),(2,(.ptr 20 0 0)),(4,(.ptr 21 0 0)),(6,(.ptr 32 0 0)),(7,(.d (natD q.1)))],[JO 20 w,(21,[.blk 35 [.d (.sl (some true) []),.d (.sl (some true) [])]]),(32,[.blk 35 [.own 33 0 q.2.length,.d (.sl (some true) [])]]),(33,[.rowD 9 1 (q.2.map AU)])]⟩) (fun q=>q.1≤w.R.length∧q.2=II x w.R q.1) (fun q=>w.R.length - q.1) ((0,[])) (⟨Nat.zero_le _,rfl⟩) (Ax hF [20,21,32,33] Z Z ⟨rfl,rfl,rfl,rfl,rfl,trivial⟩) ?_))))))));rintro ⟨k,acc⟩ ⟨hk,hacc⟩;dsimp only at hk hacc⊢;refine AE (AE (AH (AC Z Z ?_)))
  first | refine J (A2 rfl A7 Z Z Z) ?_ | refine J (A4 rfl A7 Z Z Z) ?_ | refine J (A5 rfl A7 Z Z Z) ?_ | refine J (A3 rfl A7 Z Z Z) ?_ | refine J (A1 rfl A7 Z Z Z) ?_
  first | refine J (AZ Z Z AK rfl) ?_ | refine J (AX Z Z Z AK rfl) ?_ | refine J (AY Z Z (rfl) rfl AK rfl) ?_
  refine J (CI rfl (List.length_map ..) Try.underlying32 rfl) ?_
  first | refine J (EG Z Z Z) ?_ | refine J (EK Z Z Z) ?_
  refine AF ?_
  first | refine BA rfl (fun h22=>?_) (fun h22=>?_) | refine Aw rfl (fun h22=>?_) (fun h22=>?_)
  ·refine Aj (AE (BU (AE ?_)));have hkl:k<w.R.length:=GR h22;have hal:acc.length≤w.R.length:=by rw [hacc];exact Qv _ _ _
   refine AH ?_
   first | refine J (A2 rfl A7 Z Z Z) ?_ | refine J (A4 rfl A7 Z Z Z) ?_ | refine J (A5 rfl A7 Z Z Z) ?_ | refine J (A3 rfl A7 Z Z Z) ?_ | refine J (A1 rfl A7 Z Z Z) ?_
   first | refine J (AZ Z Z AK rfl) ?_ | refine J (AX Z Z Z AK rfl) ?_ | refine J (AY Z Z (rfl) rfl AK rfl) ?_
   refine AC Z Z ?_
   first | refine J (BC (k) Z Z (rfl) (B8 hkl) Try.underlying32 rfl DE rfl) ?_ | refine J (BD (k) Z Z (rfl) (B8 hkl) rfl Try.underlying32 DE rfl) ?_
   first | refine J (AZ Z Z AW rfl) ?_ | refine J (AX Z Z Z AW rfl) ?_ | refine J (AY Z Z (rfl) rfl AW rfl) ?_
   refine AC Z Z ?_
   first | refine J (Jh Z Z Z) ?_ | refine J (Jg Z Z Z) ?_ | refine J (JZ Z Z Z) ?_ | refine J (Ji Try.underlying9 Z Z Z) ?_ | refine J (Je Try.underlying9 Z Z Z) ?_ | refine J (st_neqN Try.underlying9 Z Z) ?_ | refine J (st_neqPr Try.underlying9 Z Z) ?_ | refine J (st_neqMz Try.underlying9 Z Z) ?_ | refine J (Jd Try.underlying9 Z Z Z) ?_ | refine J (st_neqFN Try.underlying9 Z Z) ?_
   refine AF ?_
   first | refine BA rfl (fun h31=>?_) (fun h31=>?_) | refine Aw rfl (fun h31=>?_) (fun h31=>?_)
   ·refine Fs [[],[0],[],[2],[],[2,3,4],[2,3,4,5],[2,3,4,5,6],[0,1,2,3,4,5,6,7],[0,1,2,3,4,5,6,7,8],[0,1,2,3,4,5,6,7,8,9]] mixed rfl (E6 ?_)
    first | refine AG [6] [] Z Z (fun _=>AB (A2 rfl A7 Z Z Z)) ?_ | refine AI [6] Z Z (fun _=>AB (A2 rfl A7 Z Z Z)) ?_ | refine AG [6] [] Z Z (fun _=>AB (A4 rfl A7 Z Z Z)) ?_ | refine AI [6] Z Z (fun _=>AB (A4 rfl A7 Z Z Z)) ?_ | refine AG [6] [] Z Z (fun _=>AB (A5 rfl A7 Z Z Z)) ?_ | refine AI [6] Z Z (fun _=>AB (A5 rfl A7 Z Z Z)) ?_ | refine AG [6] [] Z Z (fun _=>AB (A3 rfl A7 Z Z Z)) ?_ | refine AI [6] Z Z (fun _=>AB (A3 rfl A7 Z Z Z)) ?_ | refine AG [6] [] Z Z (fun _=>AB (A1 rfl A7 Z Z Z)) ?_ | refine AI [6] Z Z (fun _=>AB (A1 rfl A7 Z Z Z)) ?_
    first | refine AG [32] [32] Z Z (fun _=>AB (AZ Z Z AK rfl)) ?_ | refine AG [32] [32] Z Z (fun _=>AB (AX Z Z Z AK rfl)) ?_ | refine AG [32] [32] Z Z (fun _=>AB (AY Z Z (rfl) rfl AK rfl)) ?_
    first | refine AG [2] [] Z Z (fun _=>AB (A2 rfl A7 Z Z Z)) ?_ | refine AI [2] Z Z (fun _=>AB (A2 rfl A7 Z Z Z)) ?_ | refine AG [2] [] Z Z (fun _=>AB (A4 rfl A7 Z Z Z)) ?_ | refine AI [2] Z Z (fun _=>AB (A4 rfl A7 Z Z Z)) ?_ | refine AG [2] [] Z Z (fun _=>AB (A5 rfl A7 Z Z Z)) ?_ | refine AI [2] Z Z (fun _=>AB (A5 rfl A7 Z Z Z)) ?_ | refine AG [2] [] Z Z (fun _=>AB (A3 rfl A7 Z Z Z)) ?_ | refine AI [2] Z Z (fun _=>AB (A3 rfl A7 Z Z Z)) ?_ | refine AG [2] [] Z Z (fun _=>AB (A1 rfl A7 Z Z Z)) ?_ | refine AI [2] Z Z (fun _=>AB (A1 rfl A7 Z Z Z)) ?_
    first | refine AG [34] [20] Z Z (fun _=>AB (AZ Z Z AK rfl)) ?_ | refine AG [34] [20] Z Z (fun _=>AB (AX Z Z Z AK rfl)) ?_ | refine AG [34] [20] Z Z (fun _=>AB (AY Z Z (rfl) rfl AK rfl)) ?_
    first | refine AG [7] [] Z Z (fun _=>AB (Ah Z Z)) ?_ | refine AI [7] Z Z (fun _=>AB (Ah Z Z)) ?_
    first | refine AG [35,36] [] Z Z (fun _=>AB (BC (k) Z Z (rfl) (B8 hkl) Try.underlying32 rfl DE rfl)) ?_ | refine AI [35,36] Z Z (fun _=>AB (BC (k) Z Z (rfl) (B8 hkl) Try.underlying32 rfl DE rfl)) ?_ | refine AG [35,36] [] Z Z (fun _=>AB (BD (k) Z Z (rfl) (B8 hkl) rfl Try.underlying32 DE rfl)) ?_ | refine AI [35,36] Z Z (fun _=>AB (BD (k) Z Z (rfl) (B8 hkl) rfl Try.underlying32 DE rfl)) ?_
    first | refine AG [37] [] Z Z (fun _=>AB (AZ Z Z AW rfl)) ?_ | refine AI [37] Z Z (fun _=>AB (AZ Z Z AW rfl)) ?_ | refine AG [37] [] Z Z (fun _=>AB (AX Z Z Z AW rfl)) ?_ | refine AI [37] Z Z (fun _=>AB (AX Z Z Z AW rfl)) ?_ | refine AG [37] [] Z Z (fun _=>AB (AY Z Z (rfl) rfl AW rfl)) ?_ | refine AI [37] Z Z (fun _=>AB (AY Z Z (rfl) rfl AW rfl)) ?_
    refine CE [38] [34] [(39,_)] Z Z (fun _=>IM (Ga 34 B7 Z Z Z Z Z Z Z Z)) (.inr ⟨39,_,rfl,rfl,rfl,rfl,rfl⟩) Z Z Z Z Z (E7 8 Z Z Z (Bq 9 Z Z ?_))
    first | refine U (I2 (acc) ([w.R[k]]) Z Z Z Z Z Z Z Z B7 (by simp only [List.length_singleton];omega) Z Z Z Z) ?_ | refine U (Jf (acc) ([w.R[k]]) Z Z Z Z Z Z (fun _=>rfl) B7 (by simp only [List.length_singleton];omega) Z Z Z Z) ?_
    refine AF ⟨rfl,?_⟩;refine Bq 10 Z Z ?_
    first | refine J (A2 rfl A7 Z Z Z) ?_ | refine J (A4 rfl A7 Z Z Z) ?_ | refine J (A5 rfl A7 Z Z Z) ?_ | refine J (A3 rfl A7 Z Z Z) ?_ | refine J (A1 rfl A7 Z Z Z) ?_
    refine AF ⟨rfl,?_⟩;refine Bq 11 Z Z (U (Bu Z Z Z Z Z Z Z Bl) (AF ⟨rfl,?_⟩));refine FH (AH (AC Z Z (J (C8 Z Z (IntWalk.i64_in _ (by omega)) rfl) (AD Z Z (AF ?_)))));exact ⟨(k+1,acc++ [w.R[k]]),⟨hkl,by show _=II x w.R (k+1);rw [Qw hkl h31,hacc]⟩,by show w.R.length - (k+1)<w.R.length - k;omega,Ax hF [20,21,32,33] rfl (rfl) ⟨rfl,rfl,rfl,rfl,rfl,trivial⟩⟩
   ·refine Aj (AH (AC Z Z (J (C8 Z Z (IntWalk.i64_in _ (by omega)) rfl) (AD Z Z (AF ?_)))));exact ⟨(k+1,acc),⟨hkl,by show _=II x w.R (k+1);rw [PH hkl (Classical.not_not.1 h31),hacc]⟩,by show w.R.length - (k+1)<w.R.length - k;omega,Ax hF [20,21,32,33] rfl (rfl) ⟨rfl,rfl,rfl,rfl,rfl,trivial⟩⟩
  ·refine D7 (AE (AE ?_));have hke:k=w.R.length:=by have:=h22;omega
   have hac:acc=(Er w x).R:=by rw [hacc,hke];unfold II Er;rw [List.take_length]
   refine CU (ys:=acc.map AU) 32 0 0 33 Z Z Z (Nat.le_of_eq (by rw [List.length_map])) (List.take_of_length_le (by rw [List.length_map];exact Nat.le_refl _)) Z Z Z Z Z Z ?_;rw [hac];refine AH (AD Z Z (AF (BU (D2 32 0 1 35 FC Z Z Z Z Z Z Z (Ev (α:=Nat×List Lw) (fun q=>⟨86,[(1,.d (AU x)),(2,(.ptr 20 0 0)),(4,(.ptr 21 0 0)),(6,(.ptr 32 0 0)),(8,(.d (natD q.1)))],[JO 20 w,(21,[.blk 35 [.d (.sl (some true) []),.d (.sl (some true) [])]]),(32,[.blk 35 [.d (stsD (Er w x).R),.own 35 0 q.2.length]]),(35,[.rowD 71 3 (q.2.map OA)])]⟩) (fun q=>q.1≤w.K.length∧q.2=Hc x w.K q.1) (fun q=>w.K.length - q.1) ((0,[])) (⟨Nat.zero_le _,rfl⟩) (Ax hF [20,21,32,35] Z Z ⟨rfl,rfl,rfl,rfl,rfl,trivial⟩) ?_)))));rintro ⟨k,acc⟩ ⟨hk,hacc⟩;dsimp only at hk hacc⊢;refine AE (AE (AH (AC Z Z ?_)))
   first | refine J (A2 rfl Ag Z Z Z) ?_ | refine J (A4 rfl Ag Z Z Z) ?_ | refine J (A5 rfl Ag Z Z Z) ?_ | refine J (A3 rfl Ag Z Z Z) ?_ | refine J (A1 rfl Ag Z Z Z) ?_
   first | refine J (AZ Z Z Ay rfl) ?_ | refine J (AX Z Z Z Ay rfl) ?_ | refine J (AY Z Z (rfl) rfl Ay rfl) ?_
   refine J (CI rfl (List.length_map ..) Try.underlying33 rfl) ?_
   first | refine J (EG Z Z Z) ?_ | refine J (EK Z Z Z) ?_
   refine AF ?_
   first | refine BA rfl (fun h46=>?_) (fun h46=>?_) | refine Aw rfl (fun h46=>?_) (fun h46=>?_)
   ·refine Aj (AE (BU (AE ?_)));have hkl:k<w.K.length:=GR h46;have hal:acc.length≤w.K.length:=by rw [hacc];exact Qx _ _ _
    refine AH ?_
    first | refine J (A2 rfl Ag Z Z Z) ?_ | refine J (A4 rfl Ag Z Z Z) ?_ | refine J (A5 rfl Ag Z Z Z) ?_ | refine J (A3 rfl Ag Z Z Z) ?_ | refine J (A1 rfl Ag Z Z Z) ?_
    first | refine J (AZ Z Z Ay rfl) ?_ | refine J (AX Z Z Z Ay rfl) ?_ | refine J (AY Z Z (rfl) rfl Ay rfl) ?_
    refine AC Z Z ?_
    first | refine J (BC (k) Z Z (rfl) (DN hkl) Try.underlying33 rfl Ca rfl) ?_ | refine J (BD (k) Z Z (rfl) (DN hkl) rfl Try.underlying33 Ca rfl) ?_
    first | refine J (A2 rfl CG Z Z Z) ?_ | refine J (A4 rfl CG Z Z Z) ?_ | refine J (A5 rfl CG Z Z Z) ?_ | refine J (A3 rfl CG Z Z Z) ?_ | refine J (A1 rfl CG Z Z Z) ?_
    first | refine J (AZ Z Z AW rfl) ?_ | refine J (AX Z Z Z AW rfl) ?_ | refine J (AY Z Z (rfl) rfl AW rfl) ?_
    refine AC Z Z ?_
    first | refine J (Jh Z Z Z) ?_ | refine J (Jg Z Z Z) ?_ | refine J (JZ Z Z Z) ?_ | refine J (Ji Try.underlying9 Z Z Z) ?_ | refine J (Je Try.underlying9 Z Z Z) ?_ | refine J (st_neqN Try.underlying9 Z Z) ?_ | refine J (st_neqPr Try.underlying9 Z Z) ?_ | refine J (st_neqMz Try.underlying9 Z Z) ?_ | refine J (Jd Try.underlying9 Z Z Z) ?_ | refine J (st_neqFN Try.underlying9 Z Z) ?_
    refine AC Z Z ?_
    first | refine K6 57 rfl (fun h57=>?_) (fun h57=>?_) | refine J0 57 rfl (fun h57=>?_) (fun h57=>?_)
    ·refine Ab Z Z Z ?_
     first | refine J (A2 rfl Ag Z Z Z) ?_ | refine J (A4 rfl Ag Z Z Z) ?_ | refine J (A5 rfl Ag Z Z Z) ?_ | refine J (A3 rfl Ag Z Z Z) ?_ | refine J (A1 rfl Ag Z Z Z) ?_
     refine Ab Z Z Z ?_
     first | refine J (AZ Z Z Ay rfl) ?_ | refine J (AX Z Z Z Ay rfl) ?_ | refine J (AY Z Z (rfl) rfl Ay rfl) ?_
     refine Ab Z Z Z (AC Z Z (Ab Z Z Z ?_))
     first | refine J (BC (k) Z Z (rfl) (DN hkl) Try.underlying33 rfl Ca rfl) ?_ | refine J (BD (k) Z Z (rfl) (DN hkl) rfl Try.underlying33 Ca rfl) ?_
     refine Ab Z Z Z ?_
     first | refine J (A2 rfl Cn Z Z Z) ?_ | refine J (A4 rfl Cn Z Z Z) ?_ | refine J (A5 rfl Cn Z Z Z) ?_ | refine J (A3 rfl Cn Z Z Z) ?_ | refine J (A1 rfl Cn Z Z Z) ?_
     refine Ab Z Z Z ?_
     first | refine J (AZ Z Z AW rfl) ?_ | refine J (AX Z Z Z AW rfl) ?_ | refine J (AY Z Z (rfl) rfl AW rfl) ?_
     refine Ab Z Z Z (AC Z Z (Ab Z Z Z ?_))
     first | refine J (Jh Z Z Z) ?_ | refine J (Jg Z Z Z) ?_ | refine J (JZ Z Z Z) ?_ | refine J (Ji Try.underlying9 Z Z Z) ?_ | refine J (Je Try.underlying9 Z Z Z) ?_ | refine J (st_neqN Try.underlying9 Z Z) ?_ | refine J (st_neqPr Try.underlying9 Z Z) ?_ | refine J (st_neqMz Try.underlying9 Z Z) ?_ | refine J (Jd Try.underlying9 Z Z Z) ?_ | refine J (st_neqFN Try.underlying9 Z Z) ?_
     refine J (Hz Z Z Z Z) (AF ?_)
     first | refine BA rfl (fun h66=>?_) (fun h66=>?_) | refine Aw rfl (fun h66=>?_) (fun h66=>?_)
     ·refine Fs [[],[0],[],[2],[],[2,3,4],[2,3,4,5],[2,3,4,5,6],[0,1,2,3,4,5,6,7],[0,1,2,3,4,5,6,7,8],[0,1,2,3,4,5,6,7,8,9]] mixed rfl (E6 ?_)
      first | refine AG [6] [] Z Z (fun _=>AB (A2 rfl Ag Z Z Z)) ?_ | refine AI [6] Z Z (fun _=>AB (A2 rfl Ag Z Z Z)) ?_ | refine AG [6] [] Z Z (fun _=>AB (A4 rfl Ag Z Z Z)) ?_ | refine AI [6] Z Z (fun _=>AB (A4 rfl Ag Z Z Z)) ?_ | refine AG [6] [] Z Z (fun _=>AB (A5 rfl Ag Z Z Z)) ?_ | refine AI [6] Z Z (fun _=>AB (A5 rfl Ag Z Z Z)) ?_ | refine AG [6] [] Z Z (fun _=>AB (A3 rfl Ag Z Z Z)) ?_ | refine AI [6] Z Z (fun _=>AB (A3 rfl Ag Z Z Z)) ?_ | refine AG [6] [] Z Z (fun _=>AB (A1 rfl Ag Z Z Z)) ?_ | refine AI [6] Z Z (fun _=>AB (A1 rfl Ag Z Z Z)) ?_
      first | refine AG [67] [32] Z Z (fun _=>AB (AZ Z Z Ay rfl)) ?_ | refine AG [67] [32] Z Z (fun _=>AB (AX Z Z Z Ay rfl)) ?_ | refine AG [67] [32] Z Z (fun _=>AB (AY Z Z (rfl) rfl Ay rfl)) ?_
      first | refine AG [2] [] Z Z (fun _=>AB (A2 rfl Ag Z Z Z)) ?_ | refine AI [2] Z Z (fun _=>AB (A2 rfl Ag Z Z Z)) ?_ | refine AG [2] [] Z Z (fun _=>AB (A4 rfl Ag Z Z Z)) ?_ | refine AI [2] Z Z (fun _=>AB (A4 rfl Ag Z Z Z)) ?_ | refine AG [2] [] Z Z (fun _=>AB (A5 rfl Ag Z Z Z)) ?_ | refine AI [2] Z Z (fun _=>AB (A5 rfl Ag Z Z Z)) ?_ | refine AG [2] [] Z Z (fun _=>AB (A3 rfl Ag Z Z Z)) ?_ | refine AI [2] Z Z (fun _=>AB (A3 rfl Ag Z Z Z)) ?_ | refine AG [2] [] Z Z (fun _=>AB (A1 rfl Ag Z Z Z)) ?_ | refine AI [2] Z Z (fun _=>AB (A1 rfl Ag Z Z Z)) ?_
      first | refine AG [69] [20] Z Z (fun _=>AB (AZ Z Z Ay rfl)) ?_ | refine AG [69] [20] Z Z (fun _=>AB (AX Z Z Z Ay rfl)) ?_ | refine AG [69] [20] Z Z (fun _=>AB (AY Z Z (rfl) rfl Ay rfl)) ?_
      first | refine AG [8] [] Z Z (fun _=>AB (Ah Z Z)) ?_ | refine AI [8] Z Z (fun _=>AB (Ah Z Z)) ?_
      first | refine AG [70,71] [] Z Z (fun _=>AB (BC (k) Z Z (rfl) (DN hkl) Try.underlying33 rfl Ca rfl)) ?_ | refine AI [70,71] Z Z (fun _=>AB (BC (k) Z Z (rfl) (DN hkl) Try.underlying33 rfl Ca rfl)) ?_ | refine AG [70,71] [] Z Z (fun _=>AB (BD (k) Z Z (rfl) (DN hkl) rfl Try.underlying33 Ca rfl)) ?_ | refine AI [70,71] Z Z (fun _=>AB (BD (k) Z Z (rfl) (DN hkl) rfl Try.underlying33 Ca rfl)) ?_
      first | refine AG [72] [] Z Z (fun _=>AB (B3 Z Z At rfl)) ?_ | refine AI [72] Z Z (fun _=>AB (B3 Z Z At rfl)) ?_ | refine AG [72] [] Z Z (fun _=>AB (BZ Z Z At Z Z Z)) ?_ | refine AI [72] Z Z (fun _=>AB (BZ Z Z At Z Z Z)) ?_ | refine AG [72] [] Z Z (fun _=>AB (B1 Z Z (rfl) rfl At rfl)) ?_ | refine AI [72] Z Z (fun _=>AB (B1 Z Z (rfl) rfl At rfl)) ?_
      refine CE [73] [36] [(74,_)] Z Z (fun _=>IM (Ga 36 FC Z Z Z Z Z Z Z Z)) (.inr ⟨74,_,rfl,rfl,rfl,rfl,rfl⟩) Z Z Z Z Z (E7 8 Z Z Z (Bq 9 Z Z ?_))
      first | refine U (I2 (acc) ([w.K[k]]) Z Z Z Z Z Z Z Z FC (by simp only [List.length_singleton];omega) Z Z Z Z) ?_ | refine U (Jf (acc) ([w.K[k]]) Z Z Z Z Z Z (fun _=>rfl) FC (by simp only [List.length_singleton];omega) Z Z Z Z) ?_
      refine AF ⟨rfl,?_⟩;refine Bq 10 Z Z ?_
      first | refine J (A2 rfl Ag Z Z Z) ?_ | refine J (A4 rfl Ag Z Z Z) ?_ | refine J (A5 rfl Ag Z Z Z) ?_ | refine J (A3 rfl Ag Z Z Z) ?_ | refine J (A1 rfl Ag Z Z Z) ?_
      refine AF ⟨rfl,?_⟩;refine Bq 11 Z Z (U (Bu Z Z Z Z Z Z Z sz33) (AF ⟨rfl,?_⟩));refine FH (AH (AC Z Z (J (C8 Z Z (IntWalk.i64_in _ (by omega)) rfl) (AD Z Z (AF ?_)))));exact ⟨(k+1,acc++ [w.K[k]]),⟨hkl,by show _=Hc x w.K (k+1);rw [Qy hkl h57 h66,hacc]⟩,by show w.K.length - (k+1)<w.K.length - k;omega,Ax hF [20,21,32,35] rfl (rfl) ⟨rfl,rfl,rfl,rfl,rfl,trivial⟩⟩
     ·refine Aj (AH (AC Z Z (J (C8 Z Z (IntWalk.i64_in _ (by omega)) rfl) (AD Z Z (AF ?_)))));exact ⟨(k+1,acc),⟨hkl,by show _=Hc x w.K (k+1);rw [KW hkl (by first | exact .inr (Classical.not_not.1 h66) | exact .inl (Classical.not_not.1 h57)),hacc]⟩,by show w.K.length - (k+1)<w.K.length - k;omega,Ax hF [20,21,32,35] rfl (rfl) ⟨rfl,rfl,rfl,rfl,rfl,trivial⟩⟩
    ·refine BL Z Z Z Z (BL Z Z Z Z (BL Z Z Z Z (BL Z Z Z Z (BL Z Z Z Z (BL Z Z Z Z (BL Z Z Z Z (BL Z Z Z Z ?_)))))));refine J (HO Z Z Z Z) (AF (EI Z Z (Aj (AH (AC Z Z (J (C8 Z Z (IntWalk.i64_in _ (by omega)) rfl) (AD Z Z (AF ?_))))))));exact ⟨(k+1,acc),⟨hkl,by show _=Hc x w.K (k+1);rw [KW hkl (by first | exact .inr (Classical.not_not.1 h66) | exact .inl (Classical.not_not.1 h57)),hacc]⟩,by show w.K.length - (k+1)<w.K.length - k;omega,Ax hF [20,21,32,35] rfl (rfl) ⟨rfl,rfl,rfl,rfl,rfl,trivial⟩⟩
   ·refine D7 (AE (AE ?_));have hke:k=w.K.length:=by have:=h46;omega
    have hac:acc=(Er w x).K:=by rw [hacc,hke];unfold Hc Er;rw [List.take_length]
    refine CU (ys:=acc.map OA) 32 0 1 35 Z Z Z (Nat.le_of_eq (by rw [List.length_map])) (List.take_of_length_le (by rw [List.length_map];exact Nat.le_refl _)) Z Z Z Z Z Z ?_;rw [hac];refine AH ?_
    first | refine J (B3 Z Z AR rfl) ?_ | refine J (BZ Z Z AR Z Z Z) ?_ | refine J (B1 Z Z (rfl) rfl AR rfl) ?_
    refine J (DU (DJ (Er w x) (hw.cut x) (Nat.le_trans (List.length_filter_le _ _) (by omega))) Z Z) (AC Z Z ?_)
    first | refine J (Bi Z Z Z) ?_ | refine J (Bj Z Z Z) ?_
    first | refine J (Bi Z Z Z) ?_ | refine J (Bj Z Z Z) ?_
    refine AD Z Z (AD Z Z (AF (AE (AH (AC Z Z ?_)))))
    first | refine J (FB Z Z) ?_ | refine J (FA Z Z) ?_
    refine AF ?_
    first | refine BA rfl (fun h83=>?_) (fun h83=>?_) | refine Aw rfl (fun h83=>?_) (fun h83=>?_)
    ·refine AE (AH ?_)
     first | refine J (B3 Z Z AR rfl) ?_ | refine J (BZ Z Z AR Z Z Z) ?_ | refine J (B1 Z Z (rfl) rfl AR rfl) ?_
     refine U (Bu Z Z Z Z Z Z Z Bd) (AD Z Z (AF (Av ?_)));have hc:acyW (Er w x)=false:=by simpa using h83
     exact ⟨_,[],[],As rfl,rfl,rfl,by rw [h0,hc];rfl,rfl⟩
    ·refine Aj (AE (AH ?_))
     first | refine J (B3 Z Z AR rfl) ?_ | refine J (BZ Z Z AR Z Z Z) ?_ | refine J (B1 Z Z (rfl) rfl AR rfl) ?_
     refine U (Bu Z Z Z Z Z Z Z Bd) (AD Z Z (AF (Av ?_)));have hc:acyW (Er w x)=true:=by simpa using h83
     exact ⟨_,[],[],As rfl,rfl,rfl,by rw [h0,if_pos hc],rfl⟩
abbrev JV.lw (o:JV):Lw:=⟨o.x,o.l.t,o.l.r⟩
noncomputable def opW (w:Ws) (o:JV):Ws×Int:=
 if o.k=0 then addW w o.x else if o.k=1 then lnkW w o.lw else if o.k=2 then unlW w o.lw else if o.k=3 then remW w o.x else (w,0)
theorem QK {w:Ws} {o:JV} (h:o.k=0):opW w o=addW w o.x:=if_pos h
theorem QJ {w:Ws} {o:JV} (h:o.k=1):opW w o=lnkW w o.lw:=by unfold opW;rw [if_neg (by omega),if_pos h]
theorem QI {w:Ws} {o:JV} (h:o.k=2):opW w o=unlW w o.lw:=by unfold opW;rw [if_neg (by omega),if_neg (by omega),if_pos h]
theorem QH {w:Ws} {o:JV} (h:o.k=3):opW w o=remW w o.x:=by unfold opW;rw [if_neg (by omega),if_neg (by omega),if_neg (by omega),if_pos h]
theorem QG {w:Ws} {o:JV} (h0:¬o.k=0) (h1:¬o.k=1) (h2:¬o.k=2) (h3:¬o.k=3):opW w o=(w,0):=by unfold opW;rw [if_neg h0,if_neg h1,if_neg h2,if_neg h3]
theorem DD.op {w:Ws} {n:Nat} (h:DD w n) (o:JV):DD (opW w o).1 (n+1):=by
 unfold opW
 split
 ·exact h.add _
 split
 ·exact h.lnk _
 split
 ·exact (h.unl _).mono (Nat.le_succ _)
 split
 ·exact (h.rem _).mono (Nat.le_succ _)
 ·exact h.mono (Nat.le_succ _)
set_option maxHeartbeats 1000000 in
theorem model_p (w:Ws) (hw:B4 w) (hK:w.K.length≤1000000) (o:JV):BW Try.prog 15 [.d (LY w),.d (opD o)] (.tup [LY (opW w o).1,Bw (opW w o).2]):=by
 refine DI Try.func15 Z Z Try.ntmps15 Z Z Z fun F hF=>?_;refine AE (AH (U (J2 20 Z Z Z Z Z Z Z) (U (J2 21 Z Z Z Z Z Z Z) (U (IP 22 EN Z Z Z Z) (AD Z Z (AF (AE (AH ?_))))))))
 first | refine J (A2 rfl F6 Z Z Z) ?_ | refine J (A4 rfl F6 Z Z Z) ?_ | refine J (A5 rfl F6 Z Z Z) ?_ | refine J (A3 rfl F6 Z Z Z) ?_ | refine J (A1 rfl F6 Z Z Z) ?_
 first | refine J (AZ Z Z AW rfl) ?_ | refine J (AX Z Z Z AW rfl) ?_ | refine J (AY Z Z (rfl) rfl AW rfl) ?_
 first | refine J (A2 rfl K4 Z Z Z) ?_ | refine J (A4 rfl K4 Z Z Z) ?_ | refine J (A5 rfl K4 Z Z Z) ?_ | refine J (A3 rfl K4 Z Z Z) ?_ | refine J (A1 rfl K4 Z Z Z) ?_
 first | refine J (A2 rfl IL Z Z Z) ?_ | refine J (A4 rfl IL Z Z Z) ?_ | refine J (A5 rfl IL Z Z Z) ?_ | refine J (A3 rfl IL Z Z Z) ?_ | refine J (A1 rfl IL Z Z Z) ?_
 first | refine J (AZ Z Z Ba rfl) ?_ | refine J (AX Z Z Z Ba rfl) ?_ | refine J (AY Z Z (rfl) rfl Ba rfl) ?_
 first | refine J (A2 rfl K4 Z Z Z) ?_ | refine J (A4 rfl K4 Z Z Z) ?_ | refine J (A5 rfl K4 Z Z Z) ?_ | refine J (A3 rfl K4 Z Z Z) ?_ | refine J (A1 rfl K4 Z Z Z) ?_
 first | refine J (A2 rfl CF Z Z Z) ?_ | refine J (A4 rfl CF Z Z Z) ?_ | refine J (A5 rfl CF Z Z Z) ?_ | refine J (A3 rfl CF Z Z Z) ?_ | refine J (A1 rfl CF Z Z Z) ?_
 first | refine J (AZ Z Z AW rfl) ?_ | refine J (AX Z Z Z AW rfl) ?_ | refine J (AY Z Z (rfl) rfl AW rfl) ?_
 refine J (Mr zl71 pl71 Z Z Z) (U (IP 23 zl71 Z Z Z Z) (U (Bu Z Z Z Z Z Z Z Ca) (AF (AE (AE (AH ?_))))))
 first | refine J (A2 rfl EE Z Z Z) ?_ | refine J (A4 rfl EE Z Z Z) ?_ | refine J (A5 rfl EE Z Z Z) ?_ | refine J (A3 rfl EE Z Z Z) ?_ | refine J (A1 rfl EE Z Z Z) ?_
 first | refine J (AZ Z Z Ba rfl) ?_ | refine J (AX Z Z Z Ba rfl) ?_ | refine J (AY Z Z (rfl) rfl Ba rfl) ?_
 refine AF (BU (AE (AH ?_)))
 first | refine J (GC Z Z Z) ?_ | refine J (GA Z Z Z) ?_ | refine J (F5 Z Z Z) ?_ | refine J (Ft Try.underlying3 Z Z Z) ?_ | refine J (Fw Try.underlying3 Z Z Z) ?_ | refine J (Fv Try.underlying3 Z Z) ?_ | refine J (Fz Try.underlying3 Z Z) ?_ | refine J (Fy Try.underlying3 Z Z) ?_ | refine J (Fu Try.underlying3 Z Z Z) ?_ | refine J (Fx Try.underlying3 Z Z) ?_
 refine AD Z Z (AF ?_)
 first | refine BA rfl (fun h18=>?_) (fun h18=>?_) | refine Aw rfl (fun h18=>?_) (fun h18=>?_)
 ·refine AE (AH ?_)
  first | refine J (B3 Z Z AR rfl) ?_ | refine J (BZ Z Z AR Z Z Z) ?_ | refine J (B1 Z Z (rfl) rfl AR rfl) ?_
  first | refine J (A2 rfl F6 Z Z Z) ?_ | refine J (A4 rfl F6 Z Z Z) ?_ | refine J (A5 rfl F6 Z Z Z) ?_ | refine J (A3 rfl F6 Z Z Z) ?_ | refine J (A1 rfl F6 Z Z Z) ?_
  first | refine J (AZ Z Z AW rfl) ?_ | refine J (AX Z Z Z AW rfl) ?_ | refine J (AY Z Z (rfl) rfl AW rfl) ?_
  refine J (DU (Pv w hw o.x) Z Z) ?_
  first | refine J (Bi Z Z Z) ?_ | refine J (Bj Z Z Z) ?_
  first | refine J (Bi Z Z Z) ?_ | refine J (Bj Z Z Z) ?_
  refine U (Bu Z Z Z Z Z Z Z Bd) (AD Z Z (AF (Av ?_)));exact ⟨_,[],[],As rfl,rfl,rfl,by rw [QK h18],rfl⟩
 ·refine AE (AH ?_)
  first | refine J (GC Z Z Z) ?_ | refine J (GA Z Z Z) ?_ | refine J (F5 Z Z Z) ?_ | refine J (Ft Try.underlying3 Z Z Z) ?_ | refine J (Fw Try.underlying3 Z Z Z) ?_ | refine J (Fv Try.underlying3 Z Z) ?_ | refine J (Fz Try.underlying3 Z Z) ?_ | refine J (Fy Try.underlying3 Z Z) ?_ | refine J (Fu Try.underlying3 Z Z Z) ?_ | refine J (Fx Try.underlying3 Z Z) ?_
  refine AD Z Z (AF ?_)
  first | refine BA rfl (fun h26=>?_) (fun h26=>?_) | refine Aw rfl (fun h26=>?_) (fun h26=>?_)
  ·refine AE (AH ?_)
   first | refine J (B3 Z Z AR rfl) ?_ | refine J (BZ Z Z AR Z Z Z) ?_ | refine J (B1 Z Z (rfl) rfl AR rfl) ?_
   first | refine J (B3 Z Z At rfl) ?_ | refine J (BZ Z Z At Z Z Z) ?_ | refine J (B1 Z Z (rfl) rfl At rfl) ?_
   refine J (DU (Kl w hw hK o.lw) Z Z) ?_
   first | refine J (Bi Z Z Z) ?_ | refine J (Bj Z Z Z) ?_
   first | refine J (Bi Z Z Z) ?_ | refine J (Bj Z Z Z) ?_
   refine U (Bu Z Z Z Z Z Z Z Bd) (AD Z Z (AF (Av ?_)));exact ⟨_,[],[],As rfl,rfl,rfl,by rw [QJ h26],rfl⟩
  ·refine AE (AH ?_)
   first | refine J (GC Z Z Z) ?_ | refine J (GA Z Z Z) ?_ | refine J (F5 Z Z Z) ?_ | refine J (Ft Try.underlying3 Z Z Z) ?_ | refine J (Fw Try.underlying3 Z Z Z) ?_ | refine J (Fv Try.underlying3 Z Z) ?_ | refine J (Fz Try.underlying3 Z Z) ?_ | refine J (Fy Try.underlying3 Z Z) ?_ | refine J (Fu Try.underlying3 Z Z Z) ?_ | refine J (Fx Try.underlying3 Z Z) ?_
   refine AD Z Z (AF ?_)
   first | refine BA rfl (fun h33=>?_) (fun h33=>?_) | refine Aw rfl (fun h33=>?_) (fun h33=>?_)
   ·refine AE (AH ?_)
    first | refine J (B3 Z Z AR rfl) ?_ | refine J (BZ Z Z AR Z Z Z) ?_ | refine J (B1 Z Z (rfl) rfl AR rfl) ?_
    first | refine J (B3 Z Z At rfl) ?_ | refine J (BZ Z Z At Z Z Z) ?_ | refine J (B1 Z Z (rfl) rfl At rfl) ?_
    refine J (DU (Lp w hw hK o.lw) Z Z) ?_
    first | refine J (Bi Z Z Z) ?_ | refine J (Bj Z Z Z) ?_
    first | refine J (Bi Z Z Z) ?_ | refine J (Bj Z Z Z) ?_
    refine U (Bu Z Z Z Z Z Z Z Bd) (AD Z Z (AF (Av ?_)));exact ⟨_,[],[],As rfl,rfl,rfl,by rw [QI h33],rfl⟩
   ·refine AE (AH ?_)
    first | refine J (GC Z Z Z) ?_ | refine J (GA Z Z Z) ?_ | refine J (F5 Z Z Z) ?_ | refine J (Ft Try.underlying3 Z Z Z) ?_ | refine J (Fw Try.underlying3 Z Z Z) ?_ | refine J (Fv Try.underlying3 Z Z) ?_ | refine J (Fz Try.underlying3 Z Z) ?_ | refine J (Fy Try.underlying3 Z Z) ?_ | refine J (Fu Try.underlying3 Z Z Z) ?_ | refine J (Fx Try.underlying3 Z Z) ?_
    refine AD Z Z (AF ?_)
    first | refine BA rfl (fun h40=>?_) (fun h40=>?_) | refine Aw rfl (fun h40=>?_) (fun h40=>?_)
    ·refine AE (AH ?_)
     first | refine J (B3 Z Z AR rfl) ?_ | refine J (BZ Z Z AR Z Z Z) ?_ | refine J (B1 Z Z (rfl) rfl AR rfl) ?_
     first | refine J (A2 rfl F6 Z Z Z) ?_ | refine J (A4 rfl F6 Z Z Z) ?_ | refine J (A5 rfl F6 Z Z Z) ?_ | refine J (A3 rfl F6 Z Z Z) ?_ | refine J (A1 rfl F6 Z Z Z) ?_
     first | refine J (AZ Z Z AW rfl) ?_ | refine J (AX Z Z Z AW rfl) ?_ | refine J (AY Z Z (rfl) rfl AW rfl) ?_
     refine J (DU (Lq w hw hK o.x) Z Z) ?_
     first | refine J (Bi Z Z Z) ?_ | refine J (Bj Z Z Z) ?_
     first | refine J (Bi Z Z Z) ?_ | refine J (Bj Z Z Z) ?_
     refine U (Bu Z Z Z Z Z Z Z Bd) (AD Z Z (AF (Av ?_)));exact ⟨_,[],[],As rfl,rfl,rfl,by rw [QH h40],rfl⟩
    ·refine Aj (AE (AH ?_))
     first | refine J (B3 Z Z AR rfl) ?_ | refine J (BZ Z Z AR Z Z Z) ?_ | refine J (B1 Z Z (rfl) rfl AR rfl) ?_
     refine U (Bu Z Z Z Z Z Z Z Bd) (AD Z Z (AF (Av ?_)));exact ⟨_,[],[],As rfl,rfl,rfl,by rw [QG h18 h26 h33 h40],rfl⟩
set_option maxHeartbeats 1000000 in
theorem do_c {M:MF} {b:Nat} {w:Ws} (h:BX M b w) (hw:B4 w) (hK:w.K.length≤999999) (o:JV):AT Try.prog 16 [.d (pD b 0),.d (opD o)] [(40,[.multi M])] fun r H'=>∃M',r= .d (Bw (opW w o).2)∧H'=[(40,[.multi M'])]∧BX M' b (opW w o).1:=by
 refine DI Try.func16 Z Z Try.ntmps16 Z Z Z fun F hF=>(AE (AH (U (J2 20 Z Z Z Z Z Z Z) (AD Z Z (AF (AE (AE (AH ?_))))))))
 first | refine J (A2 rfl EE Z Z Z) ?_ | refine J (A4 rfl EE Z Z Z) ?_ | refine J (A5 rfl EE Z Z Z) ?_ | refine J (A3 rfl EE Z Z Z) ?_ | refine J (A1 rfl EE Z Z Z) ?_
 first | refine J (AZ Z Z Ba rfl) ?_ | refine J (AX Z Z Z Ba rfl) ?_ | refine J (AY Z Z (rfl) rfl Ba rfl) ?_
 refine AF (BU (AE (AH ?_)))
 first | refine J (GC Z Z Z) ?_ | refine J (GA Z Z Z) ?_ | refine J (F5 Z Z Z) ?_ | refine J (Ft Try.underlying3 Z Z Z) ?_ | refine J (Fw Try.underlying3 Z Z Z) ?_ | refine J (Fv Try.underlying3 Z Z) ?_ | refine J (Fz Try.underlying3 Z Z) ?_ | refine J (Fy Try.underlying3 Z Z) ?_ | refine J (Fu Try.underlying3 Z Z Z) ?_ | refine J (Fx Try.underlying3 Z Z) ?_
 refine AD Z Z (AF ?_)
 first | refine BA rfl (fun h7=>?_) (fun h7=>?_) | refine Aw rfl (fun h7=>?_) (fun h7=>?_)
 ·refine AE (AH (AC Z Z ?_))
  first | refine J (A2 rfl F6 Z Z Z) ?_ | refine J (A4 rfl F6 Z Z Z) ?_ | refine J (A5 rfl F6 Z Z Z) ?_ | refine J (A3 rfl F6 Z Z Z) ?_ | refine J (A1 rfl F6 Z Z Z) ?_
  first | refine J (AZ Z Z AW rfl) ?_ | refine J (AX Z Z Z AW rfl) ?_ | refine J (AY Z Z (rfl) rfl AW rfl) ?_
  refine IA (JS (OM h hw o.x) rfl [40] ⟨rfl,trivial⟩ Z Z Z Z (fun r H' ⟨M,e1,e2,_⟩=>by subst e1 e2;exact ⟨rfl,rfl,rfl⟩) rfl) rfl ?_;rintro _ ⟨r,H',⟨M1,e1,e2,h1⟩,rfl⟩;subst e1 e2;refine AD Z Z (AF (Av ?_));exact ⟨_,[40],_,As rfl,rfl,rfl,M1,by rw [QK h7],rfl,by rw [QK h7];exact h1⟩
 ·refine AE (AH ?_)
  first | refine J (GC Z Z Z) ?_ | refine J (GA Z Z Z) ?_ | refine J (F5 Z Z Z) ?_ | refine J (Ft Try.underlying3 Z Z Z) ?_ | refine J (Fw Try.underlying3 Z Z Z) ?_ | refine J (Fv Try.underlying3 Z Z) ?_ | refine J (Fz Try.underlying3 Z Z) ?_ | refine J (Fy Try.underlying3 Z Z) ?_ | refine J (Fu Try.underlying3 Z Z Z) ?_ | refine J (Fx Try.underlying3 Z Z) ?_
  refine AD Z Z (AF ?_)
  first | refine BA rfl (fun h13=>?_) (fun h13=>?_) | refine Aw rfl (fun h13=>?_) (fun h13=>?_)
  ·refine AE (AH (AC Z Z ?_))
   first | refine J (A2 rfl F6 Z Z Z) ?_ | refine J (A4 rfl F6 Z Z Z) ?_ | refine J (A5 rfl F6 Z Z Z) ?_ | refine J (A3 rfl F6 Z Z Z) ?_ | refine J (A1 rfl F6 Z Z Z) ?_
   first | refine J (AZ Z Z AW rfl) ?_ | refine J (AX Z Z Z AW rfl) ?_ | refine J (AY Z Z (rfl) rfl AW rfl) ?_
   first | refine J (A2 rfl K4 Z Z Z) ?_ | refine J (A4 rfl K4 Z Z Z) ?_ | refine J (A5 rfl K4 Z Z Z) ?_ | refine J (A3 rfl K4 Z Z Z) ?_ | refine J (A1 rfl K4 Z Z Z) ?_
   first | refine J (B3 Z Z Aq rfl) ?_ | refine J (BZ Z Z Aq Z Z Z) ?_ | refine J (B1 Z Z (rfl) rfl Aq rfl) ?_
   refine IA (JS (Ku h hw hK o.lw) rfl [40] ⟨rfl,trivial⟩ Z Z Z Z (fun r H' ⟨M,e1,e2,_⟩=>by subst e1 e2;exact ⟨rfl,rfl,rfl⟩) rfl) rfl ?_;rintro _ ⟨r,H',⟨M1,e1,e2,h1⟩,rfl⟩;subst e1 e2;refine AD Z Z (AF (Av ?_));exact ⟨_,[40],_,As rfl,rfl,rfl,M1,by rw [QJ h13],rfl,by rw [QJ h13];exact h1⟩
  ·refine AE (AH ?_)
   first | refine J (GC Z Z Z) ?_ | refine J (GA Z Z Z) ?_ | refine J (F5 Z Z Z) ?_ | refine J (Ft Try.underlying3 Z Z Z) ?_ | refine J (Fw Try.underlying3 Z Z Z) ?_ | refine J (Fv Try.underlying3 Z Z) ?_ | refine J (Fz Try.underlying3 Z Z) ?_ | refine J (Fy Try.underlying3 Z Z) ?_ | refine J (Fu Try.underlying3 Z Z Z) ?_ | refine J (Fx Try.underlying3 Z Z) ?_
   refine AD Z Z (AF ?_)
   first | refine BA rfl (fun h21=>?_) (fun h21=>?_) | refine Aw rfl (fun h21=>?_) (fun h21=>?_)
   ·refine AE (AH (AC Z Z ?_))
    first | refine J (A2 rfl F6 Z Z Z) ?_ | refine J (A4 rfl F6 Z Z Z) ?_ | refine J (A5 rfl F6 Z Z Z) ?_ | refine J (A3 rfl F6 Z Z Z) ?_ | refine J (A1 rfl F6 Z Z Z) ?_
    first | refine J (AZ Z Z AW rfl) ?_ | refine J (AX Z Z Z AW rfl) ?_ | refine J (AY Z Z (rfl) rfl AW rfl) ?_
    first | refine J (A2 rfl K4 Z Z Z) ?_ | refine J (A4 rfl K4 Z Z Z) ?_ | refine J (A5 rfl K4 Z Z Z) ?_ | refine J (A3 rfl K4 Z Z Z) ?_ | refine J (A1 rfl K4 Z Z Z) ?_
    first | refine J (B3 Z Z Aq rfl) ?_ | refine J (BZ Z Z Aq Z Z Z) ?_ | refine J (B1 Z Z (rfl) rfl Aq rfl) ?_
    refine IA (JS (P5 h hw (by omega) o.lw) rfl [40] ⟨rfl,trivial⟩ Z Z Z Z (fun r H' ⟨M,e1,e2,_⟩=>by subst e1 e2;exact ⟨rfl,rfl,rfl⟩) rfl) rfl ?_;rintro _ ⟨r,H',⟨M1,e1,e2,h1⟩,rfl⟩;subst e1 e2;refine AD Z Z (AF (Av ?_));exact ⟨_,[40],_,As rfl,rfl,rfl,M1,by rw [QI h21],rfl,by rw [QI h21];exact h1⟩
   ·refine AE (AH ?_)
    first | refine J (GC Z Z Z) ?_ | refine J (GA Z Z Z) ?_ | refine J (F5 Z Z Z) ?_ | refine J (Ft Try.underlying3 Z Z Z) ?_ | refine J (Fw Try.underlying3 Z Z Z) ?_ | refine J (Fv Try.underlying3 Z Z) ?_ | refine J (Fz Try.underlying3 Z Z) ?_ | refine J (Fy Try.underlying3 Z Z) ?_ | refine J (Fu Try.underlying3 Z Z Z) ?_ | refine J (Fx Try.underlying3 Z Z) ?_
    refine AD Z Z (AF ?_)
    first | refine BA rfl (fun h29=>?_) (fun h29=>?_) | refine Aw rfl (fun h29=>?_) (fun h29=>?_)
    ·refine AE (AH (AC Z Z ?_))
     first | refine J (A2 rfl F6 Z Z Z) ?_ | refine J (A4 rfl F6 Z Z Z) ?_ | refine J (A5 rfl F6 Z Z Z) ?_ | refine J (A3 rfl F6 Z Z Z) ?_ | refine J (A1 rfl F6 Z Z Z) ?_
     first | refine J (AZ Z Z AW rfl) ?_ | refine J (AX Z Z Z AW rfl) ?_ | refine J (AY Z Z (rfl) rfl AW rfl) ?_
     refine IA (JS (Pu h hw (by omega) o.x) rfl [40] ⟨rfl,trivial⟩ Z Z Z Z (fun r H' ⟨M,e1,e2,_⟩=>by subst e1 e2;exact ⟨rfl,rfl,rfl⟩) rfl) rfl ?_;rintro _ ⟨r,H',⟨M1,e1,e2,h1⟩,rfl⟩;subst e1 e2;refine AD Z Z (AF (Av ?_));exact ⟨_,[40],_,As rfl,rfl,rfl,M1,by rw [QH h29],rfl,by rw [QH h29];exact h1⟩
    ·refine Aj (AE (AH (AD Z Z (AF (Av ?_)))));exact ⟨_,[40],_,As rfl,rfl,rfl,M,by rw [QG h7 h13 h21 h29],rfl,by rw [QG h7 h13 h21 h29];exact h⟩
abbrev QD (l:List JV):D:= .sl none (l.map opD)
theorem few_p (l:List JV) (hl:l.length≤140737488355328):BW Try.prog 14 [.d (QD l)] (QD (l.take 24)):=by
 refine DI Try.func14 Z Z Try.ntmps14 Z Z Z fun F hF=>?_;refine AE (AH (AD Z Z (AF (AE (AH (AC Z Z (AC Z Z (J (CI rfl (List.length_map ..) Try.underlying30 rfl) ?_))))))))
 obtain ⟨m,hm,hm1,hm2⟩:∃m:Nat,(if (24:Int)<(l.length:Int) then (24:Int) else (l.length:Int))=(m:Int)∧m≤l.length∧l.take m=l.take 24:=⟨min l.length 24,by omega,by omega,by rw [Nat.min_comm,←List.take_take,List.take_length]⟩
 refine J (st_min Z Z (hm) rfl) ?_
 first | refine J (NA (m) Z Z Z (by rw [List.length_map];exact hm1) Try.underlying30 L4 (by simp [D.cells,byteD]) (List.map_take.symm) rfl) ?_ | refine J (HS (m) Z Z Z (by rw [List.length_map];exact hm1) rfl Try.underlying30 L4 rfl) ?_
 refine AD Z Z (AF (Av ?_));exact ⟨_,[],[],As rfl,rfl,rfl,by rw [hm2],rfl⟩
theorem FE {l:List Grp} {k:Nat} (h:k<l.length):(l.map IH)[k]?=some (IH l[k]):=by
 rw [List.getElem?_map,List.getElem?_eq_getElem h];rfl
theorem Qm {w:Ws} (hw:B4 w):(groupsW w).length≤1000000∧∀g∈groupsW w,g.m.length≤1000000∧g.a.length≤1000000:=by
 have hfew:=hw.few;have hpn:(parts w).length≤4096:=by unfold parts;rw [List.length_map];exact Nat.le_trans (List.length_filter_le _ _) hfew
 cases ho:ordW w with
 | none=>rw [(LD ho).1];exact ⟨by simp,fun g hg=>by simp at hg⟩
 | some ord=>
  rw [(Fm ho).1];obtain ⟨hgo,hl⟩:=HY ho;refine ⟨by rw [D0];omega,fun g hg=>?_⟩;obtain ⟨p,hp,rfl⟩:=List.mem_map.1 hg;have hp:=List.mem_range.1 hp
  constructor
  ·show ((parts w).getD (ord.getD p 0) []).length≤_
   by_cases hi:ord.getD p 0<(parts w).length
   ·have h1:=(Cg (Gq hw (List.mem_of_getElem? (E0 hi)))).length_le_of_subset (l₂:=w.R) fun y hy=>((Kq hw hi).1 hy).1;omega
   ·rw [List.getD_eq_getElem?_getD,List.getElem?_eq_none (by omega)];exact Nat.zero_le _
  ·show (D1 (depL w) ord (ord.getD p 0) p).length≤_;have:=Mn w ord (ord.getD p 0) p;unfold aftT at this;unfold D1;omega
noncomputable def opsW (l:List JV):Ws:=l.foldl (fun w o=>(opW w o).1) ⟨[],[]⟩
theorem On (l:List JV) (o:JV):opsW (l++ [o])=(opW (opsW l) o).1:=by unfold opsW;rw [List.foldl_append];rfl
theorem HZ {l:List JV} {k:Nat} (hk:k<l.length):opsW (l.take (k+1))=(opW (opsW (l.take k)) l[k]).1:=by rw [List.take_succ_eq_append_getElem hk,On]
theorem Lv (l:List JV):∀k,k≤l.length ->DD (opsW (l.take k)) k:=by
 intro k
 induction k with
 | zero=>intro _;exact DD.nil
 | succ k ih=>intro hk;rw [HZ (by omega)];exact (ih (by omega)).op _
theorem PG {l:List JV} {k:Nat} (h:k<l.length):(l.map opD)[k]?=some (opD l[k]):=by
 rw [List.getElem?_map,List.getElem?_eq_getElem h];rfl
set_option maxHeartbeats 4000000 in
theorem play_c (l:List JV) (hl:l.length≤1000):AT Try.prog 18 [.d (QD l)] [] fun r H'=>∃b M,r= .d (.tup [pD b 0,LY (opsW l)])∧H'=[(40,[.multi M])]∧BX M b (opsW l):=by
 refine DI Try.func18 Z Z Try.ntmps18 Z Z Z fun F hF=>(AE (AH (AD Z Z (U (IP 20 EN Z Z Z Z) (AF (AE (AH ?_)))))));refine IA (JS QY rfl [40] ⟨rfl,trivial⟩ Z Z Z Z (fun r H' ⟨b,M,e1,e2,_⟩=>by subst e1 e2;exact ⟨rfl,rfl,rfl⟩) rfl) rfl ?_;rintro _ ⟨r,H',⟨b,M0,e1,e2,h0⟩,rfl⟩;subst e1 e2;refine J (Mr EN Lt Z Z Z) (U (IP 25 EN Z Z Z Z) (AD Z Z (U (Bu Z Z Z Z Z Z Z Bd) (AF ?_))));refine AE (AE (ON 25 0 0 (stsD []) Z Z (fun _ _ _ h=>h.anyNil) Z Z (ON 25 0 1 (J8 []) Z Z (fun _ _ _ h=>h.anyNil) Z Z (AH (AD Z Z (AF (BU (Ev (α:=Nat×MF) (fun q=>⟨32,[(0,.d (QD l)),(3,(.ptr 20 0 0)),(4,(.d (pD b 0))),(5,(.ptr 25 0 0)),(6,(.d (natD q.1)))],[(20,[.blk 35 [.d (.sl (some true) []),.d (.sl (some true) [])]]),(25,[.blk 35 [.d (stsD (opsW (l.take q.1)).R),.d (J8 (opsW (l.take q.1)).K)]]),(40,[.multi q.2])]⟩) (fun q=>q.1≤l.length∧BX q.2 b (opsW (l.take q.1))) (fun q=>l.length - q.1) ((0,M0)) (⟨Nat.zero_le _,h0⟩) (Ax hF [20,25,40] Z Z ⟨rfl,rfl,rfl,rfl,rfl,trivial⟩) ?_))))))));rintro ⟨k,M⟩ ⟨hk,hR⟩;dsimp only at hk hR⊢;refine AE (AE (AH (AC Z Z (AC Z Z (J (CI rfl (List.length_map ..) Try.underlying30 rfl) ?_)))))
 first | refine J (EG Z Z Z) ?_ | refine J (EK Z Z Z) ?_
 refine AF ?_
 first | refine BA rfl (fun h12=>?_) (fun h12=>?_) | refine Aw rfl (fun h12=>?_) (fun h12=>?_)
 ·refine Aj (AE (BU (AE ?_)));have hkl:k<l.length:=GR h12;have hInv:=Lv l k hk;have hnK:=hInv.nK;refine AH (AC Z Z (AC Z Z (AC Z Z ?_)))
  first | refine J (BC (k) Z Z (rfl) (PG hkl) Try.underlying30 rfl L4 rfl) ?_ | refine J (BD (k) Z Z (rfl) (PG hkl) rfl Try.underlying30 L4 rfl) ?_
  first | refine J (B3 Z Z Ki rfl) ?_ | refine J (BZ Z Z Ki Z Z Z) ?_ | refine J (B1 Z Z (rfl) rfl Ki rfl) ?_
  refine IA (JS (do_c hR hInv.ok (by omega) l[k]) rfl [40] ⟨rfl,trivial⟩ Z Z Z Z (fun r H' ⟨M,e1,e2,_⟩=>by subst e1 e2;exact ⟨rfl,rfl,rfl⟩) rfl) rfl ?_;rintro _ ⟨r,H',⟨M1,e1,e2,h1⟩,rfl⟩;subst e1 e2;refine AF (Fs [[],[],[],[1,2],[1,2,3],[0,1,2,3,4],[0,1,2,3,4,5],[0,1,2,3,4,5,6],[0,1,2,3,4,5,6],[0,1,2,3,4,5,6,7]] mixed rfl (E6 ?_))
  first | refine AG [5] [25] Z Z (fun _=>AB (B3 Z Z AR rfl)) ?_ | refine AG [5] [25] Z Z (fun _=>AB (BZ Z Z AR Z Z Z)) ?_ | refine AG [5] [25] Z Z (fun _=>AB (B1 Z Z (rfl) rfl AR rfl)) ?_
  first | refine AG [0] [] Z Z (fun _=>AB (Ah Z Z)) ?_ | refine AI [0] Z Z (fun _=>AB (Ah Z Z)) ?_
  first | refine AG [6] [] Z Z (fun _=>AB (Ah Z Z)) ?_ | refine AI [6] Z Z (fun _=>AB (Ah Z Z)) ?_
  first | refine AG [23,24] [] Z Z (fun _=>AB (BC (k) Z Z (rfl) (PG hkl) Try.underlying30 rfl L4 rfl)) ?_ | refine AI [23,24] Z Z (fun _=>AB (BC (k) Z Z (rfl) (PG hkl) Try.underlying30 rfl L4 rfl)) ?_ | refine AG [23,24] [] Z Z (fun _=>AB (BD (k) Z Z (rfl) (PG hkl) rfl Try.underlying30 L4 rfl)) ?_ | refine AI [23,24] Z Z (fun _=>AB (BD (k) Z Z (rfl) (PG hkl) rfl Try.underlying30 L4 rfl)) ?_
  first | refine AG [25] [] Z Z (fun _=>AB (B3 Z Z Ki rfl)) ?_ | refine AI [25] Z Z (fun _=>AB (B3 Z Z Ki rfl)) ?_ | refine AG [25] [] Z Z (fun _=>AB (BZ Z Z Ki Z Z Z)) ?_ | refine AI [25] Z Z (fun _=>AB (BZ Z Z Ki Z Z Z)) ?_ | refine AG [25] [] Z Z (fun _=>AB (B1 Z Z (rfl) rfl Ki rfl)) ?_ | refine AI [25] Z Z (fun _=>AB (B1 Z Z (rfl) rfl Ki rfl)) ?_
  refine E7 5 Z Z Z (Bq 6 Z Z (J (DU (model_p (opsW (l.take k)) hInv.ok (by omega) l[k]) Z Z) (AF ⟨rfl,?_⟩)));refine Bq 7 Z Z (AC Z Z (AF ⟨rfl,?_⟩));refine E6 ?_
  first | refine AG [21] [] Z Z (fun _=>AB (Bi Z Z Z)) ?_ | refine AI [21] Z Z (fun _=>AB (Bi Z Z Z)) ?_ | refine AG [21] [] Z Z (fun _=>AB (Bj Z Z Z)) ?_ | refine AI [21] Z Z (fun _=>AB (Bj Z Z Z)) ?_
  first | refine AG [21] [] Z Z (fun _=>AB (Bi Z Z Z)) ?_ | refine AI [21] Z Z (fun _=>AB (Bi Z Z Z)) ?_ | refine AG [21] [] Z Z (fun _=>AB (Bj Z Z Z)) ?_ | refine AI [21] Z Z (fun _=>AB (Bj Z Z Z)) ?_
  refine CE [5,28] [25] [] Z Z (fun _=>IM (Bu Z Z Z Z Z Z Z Bd)) (.inl ⟨rfl,rfl⟩) Z Z Z Z Z (E7 10 Z Z Z (FH (AH (AC Z Z (J (C8 Z Z (IntWalk.i64_in _ (by omega)) rfl) (AD Z Z (AF ?_)))))));exact ⟨(k+1,M1),⟨hkl,by show BX M1 b (opsW (l.take (k+1)));rw [HZ hkl];exact h1⟩,by show l.length - (k+1)<l.length - k;omega,Ax hF [20,25,40] rfl (by simp only [HZ hkl];rfl) ⟨rfl,rfl,rfl,rfl,rfl,trivial⟩⟩
 ·refine D7 (AE ?_);have hke:k=l.length:=by have:=h12;omega
  rw [hke,List.take_length] at hR;rw [hke,List.take_length];refine Fs [[],[],[0],[0,1,2]] mixed rfl (E6 ?_)
  first | refine AG [4] [] Z Z (fun _=>AB (Ah Z Z)) ?_ | refine AI [4] Z Z (fun _=>AB (Ah Z Z)) ?_
  first | refine AG [5] [25] Z Z (fun _=>AB (B3 Z Z AR rfl)) ?_ | refine AG [5] [25] Z Z (fun _=>AB (BZ Z Z AR Z Z Z)) ?_ | refine AG [5] [25] Z Z (fun _=>AB (B1 Z Z (rfl) rfl AR rfl)) ?_
  first | refine AG [30] [] Z Z (fun _=>AB (Cf Z Z)) ?_ | refine AI [30] Z Z (fun _=>AB (Cf Z Z)) ?_
  refine E7 3 Z Z Z (Bq 4 Z Z (U (Bu Z Z Z Z Z Z Z Bd) (AF ⟨rfl,?_⟩)));refine FH (Av ?_);exact ⟨_,[40],_,As rfl,rfl,rfl,b,M,rfl,rfl,hR⟩
end Go.Proofs.Ytlmedakidpaeeaa
