/- Layer 27: the reference's Add, AddLink, Unlink, Remove, Same. -/
import Derived.Test.YtlmedakidpaeeaaGreatMg21
namespace Go.Proofs.YtlmedakidpaeeaaGreat
open Go.RowKit
set_option maxRecDepth 100000
theorem Qr (w:Ws) (hw:B1 w) (x:St):Ak Tryz.prog 37 [.d (Jw w),.d (AU x)] (.tup [Jw (addW w x).1,B7 (addW w x).2]):=by
 have hfew:=hw.few;refine CP Tryz.func37 Z Z Tryz.ntmps37 Z Z Z fun F hF=>(AE ?_);refine AH (U (Gl 20 Z Z Z Z Z Z Z) (U (HZ 21 EW Z Z Z Z) (AD Z Z (AF (AE (AE (AH (AC Z Z ?_))))))))
 first | refine J (IB rfl Tryz.underlying9 rfl) ?_ | refine J (Bs Z Z Tryz.underlying9 rfl) ?_ | refine J (IE rfl Tryz.underlying9 rfl) ?_ | refine J (IG rfl Tryz.underlying9 rfl) ?_ | refine J (ID rfl Tryz.underlying9 rfl) ?_ | refine J (H4 rfl Tryz.underlying9 rfl) ?_
 first | refine J (D3 Z Z Z) ?_ | refine J (D4 Z Z Z) ?_
 refine AC Z Z ?_
 first | refine It 9 rfl (fun h9=>?_) (fun h9=>?_) | refine I5 9 rfl (fun h9=>?_) (fun h9=>?_)
 ·refine BA Z Z Z Z (BA Z Z Z Z (BA Z Z Z Z (J (GZ Z Z Z Z) (AF (IH Z Z (AE (AH ?_)))))))
  first | refine J (BN Z Z AL rfl) ?_ | refine J (BO Z Z AL Z Z Z) ?_ | refine J (BP Z Z (rfl) rfl AL rfl) ?_
  refine U (Bu Z Z Z Z Z Z Z Bp) (AD Z Z (AF (Aq ?_)));exact ⟨_,[],[],An rfl,rfl,rfl,by rw [Hy (by omega)],rfl⟩
 ·refine Aa Z Z Z (AC Z Z (Aa Z Z Z ?_))
  first | refine J (IB rfl Tryz.underlying9 rfl) ?_ | refine J (Bs Z Z Tryz.underlying9 rfl) ?_ | refine J (IE rfl Tryz.underlying9 rfl) ?_ | refine J (IG rfl Tryz.underlying9 rfl) ?_ | refine J (ID rfl Tryz.underlying9 rfl) ?_ | refine J (H4 rfl Tryz.underlying9 rfl) ?_
  refine Aa Z Z Z ?_
  first | refine J (H9 Z Z Z) ?_ | refine J (GA Z Z Z) ?_
  refine J (Fo Z Z Z Z) (AF ?_)
  first | refine Az rfl (fun h13=>?_) (fun h13=>?_) | refine Aw rfl (fun h13=>?_) (fun h13=>?_)
  ·refine AE (AH ?_)
   first | refine J (BN Z Z AL rfl) ?_ | refine J (BO Z Z AL Z Z Z) ?_ | refine J (BP Z Z (rfl) rfl AL rfl) ?_
   refine U (Bu Z Z Z Z Z Z Z Bp) (AD Z Z (AF (Aq ?_)));exact ⟨_,[],[],An rfl,rfl,rfl,by rw [Hy (by omega)],rfl⟩
  ·refine Ai (AE (AE (AH ?_)))
   first | refine J (A2 rfl Ag Z Z Z) ?_ | refine J (A4 rfl Ag Z Z Z) ?_ | refine J (A5 rfl Ag Z Z Z) ?_ | refine J (A3 rfl Ag Z Z Z) ?_ | refine J (A1 rfl Ag Z Z Z) ?_
   first | refine J (AZ Z Z AW rfl) ?_ | refine J (AX Z Z Z AW rfl) ?_ | refine J (AY Z Z (rfl) rfl AW rfl) ?_
   refine AC Z Z (J (Bz (Jx w.R x (by omega)) Z Z) (AF ?_))
   first | refine Az rfl (fun h18=>?_) (fun h18=>?_) | refine Aw rfl (fun h18=>?_) (fun h18=>?_)
   ·refine AE (AH ?_)
    first | refine J (BN Z Z AL rfl) ?_ | refine J (BO Z Z AL Z Z Z) ?_ | refine J (BP Z Z (rfl) rfl AL rfl) ?_
    refine U (Bu Z Z Z Z Z Z Z Bp) (AD Z Z (AF (Aq ?_)));exact ⟨_,[],[],An rfl,rfl,rfl,by rw [OU (by omega) h18],rfl⟩
   ·refine Ai (AE (AE (AH ?_)))
    first | refine J (A2 rfl Ag Z Z Z) ?_ | refine J (A4 rfl Ag Z Z Z) ?_ | refine J (A5 rfl Ag Z Z Z) ?_ | refine J (A3 rfl Ag Z Z Z) ?_ | refine J (A1 rfl Ag Z Z Z) ?_
    first | refine J (AZ Z Z AW rfl) ?_ | refine J (AX Z Z Z AW rfl) ?_ | refine J (AY Z Z (rfl) rfl AW rfl) ?_
    refine J (Bs rfl (List.length_map ..) Tryz.underlying25 rfl) (J (LL Z Z Z) (AF ?_))
    first | refine Az rfl (fun h23=>?_) (fun h23=>?_) | refine Aw rfl (fun h23=>?_) (fun h23=>?_)
    ·refine AE (AH ?_)
     first | refine J (BN Z Z AL rfl) ?_ | refine J (BO Z Z AL Z Z Z) ?_ | refine J (BP Z Z (rfl) rfl AL rfl) ?_
     refine U (Bu Z Z Z Z Z Z Z Bp) (AD Z Z (AF (Aq ?_)));exact ⟨_,[],[],An rfl,rfl,rfl,by rw [OT (by omega) h18 (by omega)],rfl⟩
    ·refine Ai (AE (FK [[],[0],[],[0,1,2],[],[4],[0,1,2,3,4,5],[0,1,2,3,4,5,6],[0,1,2,3,4,5,6,7]] mixed rfl (D1 ?_)))
     first | refine AG [2] [] Z Z (fun _=>AB (A2 rfl Ag Z Z Z)) ?_ | refine AI [2] Z Z (fun _=>AB (A2 rfl Ag Z Z Z)) ?_ | refine AG [2] [] Z Z (fun _=>AB (A4 rfl Ag Z Z Z)) ?_ | refine AI [2] Z Z (fun _=>AB (A4 rfl Ag Z Z Z)) ?_ | refine AG [2] [] Z Z (fun _=>AB (A5 rfl Ag Z Z Z)) ?_ | refine AI [2] Z Z (fun _=>AB (A5 rfl Ag Z Z Z)) ?_ | refine AG [2] [] Z Z (fun _=>AB (A3 rfl Ag Z Z Z)) ?_ | refine AI [2] Z Z (fun _=>AB (A3 rfl Ag Z Z Z)) ?_ | refine AG [2] [] Z Z (fun _=>AB (A1 rfl Ag Z Z Z)) ?_ | refine AI [2] Z Z (fun _=>AB (A1 rfl Ag Z Z Z)) ?_
     first | refine AG [25] [20] Z Z (fun _=>AB (AZ Z Z AW rfl)) ?_ | refine AG [25] [20] Z Z (fun _=>AB (AX Z Z Z AW rfl)) ?_ | refine AG [25] [20] Z Z (fun _=>AB (AY Z Z (rfl) rfl AW rfl)) ?_
     first | refine AG [1] [] Z Z (fun _=>AB (A8 Z Z)) ?_ | refine AI [1] Z Z (fun _=>AB (A8 Z Z)) ?_
     first | refine AG [26,27] [] Z Z (fun _=>AB (Bz (DD w.R x (by omega)) Z Z)) ?_ | refine AI [26,27] Z Z (fun _=>AB (Bz (DD w.R x (by omega)) Z Z)) ?_
     first | refine AG [2] [] Z Z (fun _=>AB (A2 rfl A0 Z Z Z)) ?_ | refine AI [2] Z Z (fun _=>AB (A2 rfl A0 Z Z Z)) ?_ | refine AG [2] [] Z Z (fun _=>AB (A4 rfl A0 Z Z Z)) ?_ | refine AI [2] Z Z (fun _=>AB (A4 rfl A0 Z Z Z)) ?_ | refine AG [2] [] Z Z (fun _=>AB (A5 rfl A0 Z Z Z)) ?_ | refine AI [2] Z Z (fun _=>AB (A5 rfl A0 Z Z Z)) ?_ | refine AG [2] [] Z Z (fun _=>AB (A3 rfl A0 Z Z Z)) ?_ | refine AI [2] Z Z (fun _=>AB (A3 rfl A0 Z Z Z)) ?_ | refine AG [2] [] Z Z (fun _=>AB (A1 rfl A0 Z Z Z)) ?_ | refine AI [2] Z Z (fun _=>AB (A1 rfl A0 Z Z Z)) ?_
     first | refine AG [29] [20] Z Z (fun _=>AB (AZ Z Z A6 rfl)) ?_ | refine AG [29] [20] Z Z (fun _=>AB (AX Z Z Z A6 rfl)) ?_ | refine AG [29] [20] Z Z (fun _=>AB (AY Z Z (rfl) rfl A6 rfl)) ?_
     refine D2 6 Z Z Z (BY 7 Z Z (J (LE EW M9 Z Z Z) (AF ⟨rfl,?_⟩)));refine BY 8 Z Z (U (Bu Z Z Z Z Z Z Z Bp) (AF ⟨rfl,?_⟩));refine BY 9 Z Z (AD Z Z (AF ⟨rfl,?_⟩));refine Eg (Aq ?_);exact ⟨_,[],[],An rfl,rfl,rfl,by rw [OS (by omega) h18 (by omega)],rfl⟩
noncomputable def gD (w:Ws):D:=if acyW w=true then Ip (groupsW w) else .sl (some true) []
theorem DO (w:Ws) (hw:B1 w) (hl:w.K.length≤2000000):Ak Tryz.prog 56 [.d (Jw w)] (.tup [gD w,Ad (acyW w)]):=by
 have h:=MY w hw hl;unfold gD
 by_cases hc:acyW w=true
 ·rw [if_pos hc] at h⊢;rw [hc];exact h
 ·rw [if_neg hc] at h⊢;rw [Bool.eq_false_iff.2 hc];exact h
set_option maxHeartbeats 4000000 in
theorem LS (w:Ws) (hw:B1 w) (hK:w.K.length≤1000000) (l:Lw):Ak Tryz.prog 38 [.d (Jw w),.d (Mv l)] (.tup [Jw (lnkW w l).1,B7 (lnkW w l).2]):=by
 have hfew:=hw.few;refine CP Tryz.func38 Z Z Tryz.ntmps38 Z Z Z fun F hF=>(AE ?_);refine AH (U (Gl 20 Z Z Z Z Z Z Z) (U (Gl 21 Z Z Z Z Z Z Z) (U (HZ 22 EW Z Z Z Z) (AD Z Z (AF (AE (AE (AH ?_))))))))
 first | refine J (A2 rfl Eh Z Z Z) ?_ | refine J (A4 rfl Eh Z Z Z) ?_ | refine J (A5 rfl Eh Z Z Z) ?_ | refine J (A3 rfl Eh Z Z Z) ?_ | refine J (A1 rfl Eh Z Z Z) ?_
 first | refine J (AZ Z Z BV rfl) ?_ | refine J (AX Z Z Z BV rfl) ?_ | refine J (AY Z Z (rfl) rfl BV rfl) ?_
 first | refine J (I8 Z Z Z) ?_ | refine J (I7 Z Z Z) ?_ | refine J (IF Z Z Z) ?_ | refine J (I2 Tryz.underlying3 Z Z Z) ?_ | refine J (I4 Tryz.underlying3 Z Z Z) ?_ | refine J (st_neqN Tryz.underlying3 Z Z) ?_ | refine J (st_neqPr Tryz.underlying3 Z Z) ?_ | refine J (st_neqMz Tryz.underlying3 Z Z) ?_ | refine J (I3 Tryz.underlying3 Z Z Z) ?_ | refine J (st_neqFN Tryz.underlying3 Z Z) ?_
 refine AC Z Z ?_
 first | refine It 12 rfl (fun h12=>?_) (fun h12=>?_) | refine I5 12 rfl (fun h12=>?_) (fun h12=>?_)
 ·refine Aa Z Z Z ?_
  first | refine J (A2 rfl Eh Z Z Z) ?_ | refine J (A4 rfl Eh Z Z Z) ?_ | refine J (A5 rfl Eh Z Z Z) ?_ | refine J (A3 rfl Eh Z Z Z) ?_ | refine J (A1 rfl Eh Z Z Z) ?_
  refine Aa Z Z Z ?_
  first | refine J (AZ Z Z BV rfl) ?_ | refine J (AX Z Z Z BV rfl) ?_ | refine J (AY Z Z (rfl) rfl BV rfl) ?_
  refine Aa Z Z Z ?_
  first | refine J (I8 Z Z Z) ?_ | refine J (I7 Z Z Z) ?_ | refine J (IF Z Z Z) ?_ | refine J (I2 Tryz.underlying3 Z Z Z) ?_ | refine J (I4 Tryz.underlying3 Z Z Z) ?_ | refine J (st_neqN Tryz.underlying3 Z Z) ?_ | refine J (st_neqPr Tryz.underlying3 Z Z) ?_ | refine J (st_neqMz Tryz.underlying3 Z Z) ?_ | refine J (I3 Tryz.underlying3 Z Z Z) ?_ | refine J (st_neqFN Tryz.underlying3 Z Z) ?_
  refine J (GZ Z Z Z Z) (AF ?_)
  first | refine Az rfl (fun h16=>?_) (fun h16=>?_) | refine Aw rfl (fun h16=>?_) (fun h16=>?_)
  ·refine AE (AH ?_)
   first | refine J (BN Z Z AL rfl) ?_ | refine J (BO Z Z AL Z Z Z) ?_ | refine J (BP Z Z (rfl) rfl AL rfl) ?_
   refine U (Bu Z Z Z Z Z Z Z Bp) (AD Z Z (AF (Aq ?_)));exact ⟨_,[],[],An rfl,rfl,rfl,by rw [R7 h12 h16],rfl⟩
  ·refine Ai (AE (AE (AH ?_)))
   first | refine J (A2 rfl Ag Z Z Z) ?_ | refine J (A4 rfl Ag Z Z Z) ?_ | refine J (A5 rfl Ag Z Z Z) ?_ | refine J (A3 rfl Ag Z Z Z) ?_ | refine J (A1 rfl Ag Z Z Z) ?_
   first | refine J (AZ Z Z AW rfl) ?_ | refine J (AX Z Z Z AW rfl) ?_ | refine J (AY Z Z (rfl) rfl AW rfl) ?_
   first | refine J (A2 rfl Be Z Z Z) ?_ | refine J (A4 rfl Be Z Z Z) ?_ | refine J (A5 rfl Be Z Z Z) ?_ | refine J (A3 rfl Be Z Z Z) ?_ | refine J (A1 rfl Be Z Z Z) ?_
   first | refine J (AZ Z Z AR rfl) ?_ | refine J (AX Z Z Z AR rfl) ?_ | refine J (AY Z Z (rfl) rfl AR rfl) ?_
   refine J (Bz (Jx w.R l.f (by omega)) Z Z) ?_
   first | refine J (ET Z Z) ?_ | refine J (EQ Z Z) ?_
   refine AC Z Z ?_
   first | refine It 24 rfl (fun h24=>?_) (fun h24=>?_) | refine I5 24 rfl (fun h24=>?_) (fun h24=>?_)
   ·refine BA Z Z Z Z (BA Z Z Z Z ?_);refine BA Z Z Z Z (BA Z Z Z Z (BA Z Z Z Z (BA Z Z Z Z (J (GZ Z Z Z Z) (AF (IH Z Z (AE (AH ?_))))))))
    first | refine J (BN Z Z AL rfl) ?_ | refine J (BO Z Z AL Z Z Z) ?_ | refine J (BP Z Z (rfl) rfl AL rfl) ?_
    refine U (Bu Z Z Z Z Z Z Z Bp) (AD Z Z (AF (Aq ?_)));have h9:lnkW w l=(w,9):=Mw (by first | exact .inl (Classical.not_not.1 h12) | exact .inr (Classical.not_not.1 h16)) (by first | exact .inl h24 | exact .inr h31);exact ⟨_,[],[],An rfl,rfl,rfl,by rw [h9],rfl⟩
   ·refine Aa Z Z Z ?_
    first | refine J (A2 rfl Ag Z Z Z) ?_ | refine J (A4 rfl Ag Z Z Z) ?_ | refine J (A5 rfl Ag Z Z Z) ?_ | refine J (A3 rfl Ag Z Z Z) ?_ | refine J (A1 rfl Ag Z Z Z) ?_
    refine Aa Z Z Z ?_
    first | refine J (AZ Z Z AW rfl) ?_ | refine J (AX Z Z Z AW rfl) ?_ | refine J (AY Z Z (rfl) rfl AW rfl) ?_
    refine Aa Z Z Z ?_
    first | refine J (A2 rfl Bf Z Z Z) ?_ | refine J (A4 rfl Bf Z Z Z) ?_ | refine J (A5 rfl Bf Z Z Z) ?_ | refine J (A3 rfl Bf Z Z Z) ?_ | refine J (A1 rfl Bf Z Z Z) ?_
    refine Aa Z Z Z ?_
    first | refine J (AZ Z Z AR rfl) ?_ | refine J (AX Z Z Z AR rfl) ?_ | refine J (AY Z Z (rfl) rfl AR rfl) ?_
    refine Aa Z Z Z (J (Bz (Jx w.R l.r (by omega)) Z Z) (Aa Z Z Z ?_))
    first | refine J (ET Z Z) ?_ | refine J (EQ Z Z) ?_
    refine J (Fo Z Z Z Z) (AF ?_)
    first | refine Az rfl (fun h31=>?_) (fun h31=>?_) | refine Aw rfl (fun h31=>?_) (fun h31=>?_)
    ·refine AE (AH ?_)
     first | refine J (BN Z Z AL rfl) ?_ | refine J (BO Z Z AL Z Z Z) ?_ | refine J (BP Z Z (rfl) rfl AL rfl) ?_
     refine U (Bu Z Z Z Z Z Z Z Bp) (AD Z Z (AF (Aq ?_)));have h9:lnkW w l=(w,9):=Mw (by first | exact .inl (Classical.not_not.1 h12) | exact .inr (Classical.not_not.1 h16)) (by first | exact .inl h24 | exact .inr h31);exact ⟨_,[],[],An rfl,rfl,rfl,by rw [h9],rfl⟩
    ·refine Ai (AE (AE ?_));have ht:l.t=0∨l.t=1:=by first | exact .inl (Classical.not_not.1 h12) | exact .inr (Classical.not_not.1 h16)
     have hfR:l.f∈w.R:=Classical.not_not.1 h24;have hrR:l.r∈w.R:=Classical.not_not.1 h31;refine AH ?_
     first | refine J (A2 rfl Be Z Z Z) ?_ | refine J (A4 rfl Be Z Z Z) ?_ | refine J (A5 rfl Be Z Z Z) ?_ | refine J (A3 rfl Be Z Z Z) ?_ | refine J (A1 rfl Be Z Z Z) ?_
     first | refine J (AZ Z Z AR rfl) ?_ | refine J (AX Z Z Z AR rfl) ?_ | refine J (AY Z Z (rfl) rfl AR rfl) ?_
     first | refine J (A2 rfl Bf Z Z Z) ?_ | refine J (A4 rfl Bf Z Z Z) ?_ | refine J (A5 rfl Bf Z Z Z) ?_ | refine J (A3 rfl Bf Z Z Z) ?_ | refine J (A1 rfl Bf Z Z Z) ?_
     first | refine J (AZ Z Z AR rfl) ?_ | refine J (AX Z Z Z AR rfl) ?_ | refine J (AY Z Z (rfl) rfl AR rfl) ?_
     first | refine J (FW Z Z Z) ?_ | refine J (FV Z Z Z) ?_ | refine J (FL Z Z Z) ?_ | refine J (FO Tryz.underlying9 Z Z Z) ?_ | refine J (FR Tryz.underlying9 Z Z Z) ?_ | refine J (FQ Tryz.underlying9 Z Z) ?_ | refine J (FU Tryz.underlying9 Z Z) ?_ | refine J (FT Tryz.underlying9 Z Z) ?_ | refine J (FP Tryz.underlying9 Z Z Z) ?_ | refine J (fSq Tryz.underlying9 Z Z) ?_
     refine AF ?_
     first | refine Az rfl (fun h37=>?_) (fun h37=>?_) | refine Aw rfl (fun h37=>?_) (fun h37=>?_)
     ·refine AE (AH ?_)
      first | refine J (BN Z Z AL rfl) ?_ | refine J (BO Z Z AL Z Z Z) ?_ | refine J (BP Z Z (rfl) rfl AL rfl) ?_
      refine U (Bu Z Z Z Z Z Z Z Bp) (AD Z Z (AF (Aq ?_)));exact ⟨_,[],[],An rfl,rfl,rfl,by rw [Kj ht hfR hrR h37],rfl⟩
     ·refine Ai (AE (AE (AH ?_)))
      first | refine J (BN Z Z AL rfl) ?_ | refine J (BO Z Z AL Z Z Z) ?_ | refine J (BP Z Z (rfl) rfl AL rfl) ?_
      first | refine J (BN Z Z Au rfl) ?_ | refine J (BO Z Z Au Z Z Z) ?_ | refine J (BP Z Z (rfl) rfl Au rfl) ?_
      refine J (Bz (Ll w l (by omega)) Z Z) (AF ?_)
      first | refine Az rfl (fun h41=>?_) (fun h41=>?_) | refine Aw rfl (fun h41=>?_) (fun h41=>?_)
      ·refine AE (AH ?_)
       first | refine J (BN Z Z AL rfl) ?_ | refine J (BO Z Z AL Z Z Z) ?_ | refine J (BP Z Z (rfl) rfl AL rfl) ?_
       refine U (Bu Z Z Z Z Z Z Z Bp) (AD Z Z (AF (Aq ?_)));exact ⟨_,[],[],An rfl,rfl,rfl,by rw [lnk7 ht hfR hrR h37 h41],rfl⟩
      ·refine Ai (AE ?_);have hok1:=hw.with_ ht hfR hrR h37 h41;refine FK [[],[0],[],[],[3],[2,3,4],[],[6],[2,3,4,5,6,7],[0,1,2,3,4,5,6,7,8],[],[0,1,2,3,4,5,6,7,8,9,10]] mixed rfl (D1 ?_)
       first | refine AG [2] [] Z Z (fun _=>AB (A2 rfl Ag Z Z Z)) ?_ | refine AI [2] Z Z (fun _=>AB (A2 rfl Ag Z Z Z)) ?_ | refine AG [2] [] Z Z (fun _=>AB (A4 rfl Ag Z Z Z)) ?_ | refine AI [2] Z Z (fun _=>AB (A4 rfl Ag Z Z Z)) ?_ | refine AG [2] [] Z Z (fun _=>AB (A5 rfl Ag Z Z Z)) ?_ | refine AI [2] Z Z (fun _=>AB (A5 rfl Ag Z Z Z)) ?_ | refine AG [2] [] Z Z (fun _=>AB (A3 rfl Ag Z Z Z)) ?_ | refine AI [2] Z Z (fun _=>AB (A3 rfl Ag Z Z Z)) ?_ | refine AG [2] [] Z Z (fun _=>AB (A1 rfl Ag Z Z Z)) ?_ | refine AI [2] Z Z (fun _=>AB (A1 rfl Ag Z Z Z)) ?_
       first | refine AG [43] [20] Z Z (fun _=>AB (AZ Z Z AW rfl)) ?_ | refine AG [43] [20] Z Z (fun _=>AB (AX Z Z Z AW rfl)) ?_ | refine AG [43] [20] Z Z (fun _=>AB (AY Z Z (rfl) rfl AW rfl)) ?_
       refine Bo [] [30] [(45,_)] Z Z (fun _=>I1 (Fq 30 De Z Z Z Z Z Z Z Z)) (.inr ⟨45,_,rfl,rfl,rfl,rfl,rfl⟩) Z Z Z Z Z ?_
       first | refine AG [2] [] Z Z (fun _=>AB (A2 rfl A0 Z Z Z)) ?_ | refine AI [2] Z Z (fun _=>AB (A2 rfl A0 Z Z Z)) ?_ | refine AG [2] [] Z Z (fun _=>AB (A4 rfl A0 Z Z Z)) ?_ | refine AI [2] Z Z (fun _=>AB (A4 rfl A0 Z Z Z)) ?_ | refine AG [2] [] Z Z (fun _=>AB (A5 rfl A0 Z Z Z)) ?_ | refine AI [2] Z Z (fun _=>AB (A5 rfl A0 Z Z Z)) ?_ | refine AG [2] [] Z Z (fun _=>AB (A3 rfl A0 Z Z Z)) ?_ | refine AI [2] Z Z (fun _=>AB (A3 rfl A0 Z Z Z)) ?_ | refine AG [2] [] Z Z (fun _=>AB (A1 rfl A0 Z Z Z)) ?_ | refine AI [2] Z Z (fun _=>AB (A1 rfl A0 Z Z Z)) ?_
       first | refine AG [46] [20] Z Z (fun _=>AB (AZ Z Z A6 rfl)) ?_ | refine AG [46] [20] Z Z (fun _=>AB (AX Z Z Z A6 rfl)) ?_ | refine AG [46] [20] Z Z (fun _=>AB (AY Z Z (rfl) rfl A6 rfl)) ?_
       refine Bo [45,47] [30] [(48,_)] Z Z (fun _=>I1 (Iu (emb:=Mv) [] w.K Z Z Z Z Z Z (fun _=>rfl) De (by show (0+w.K.length)*40≤_;omega) Z Z Z Z)) (.inr ⟨48,_,rfl,rfl,rfl,rfl,rfl⟩) Z Z Z Z Z ?_
       first | refine AG [3] [21] Z Z (fun _=>AB (BN Z Z Au rfl)) ?_ | refine AG [3] [21] Z Z (fun _=>AB (BO Z Z Au Z Z Z)) ?_ | refine AG [3] [21] Z Z (fun _=>AB (BP Z Z (rfl) rfl Au rfl)) ?_
       refine Bo [49] [31] [(50,_)] Z Z (fun _=>I1 (Fq 31 De Z Z Z Z Z Z Z Z)) (.inr ⟨50,_,rfl,rfl,rfl,rfl,rfl⟩) Z Z Z Z Z ?_
       first | refine Ji [45] [48,50] [30,31] [(51,_)] Z Z (fun _=>I1 (IC (w.K) ([l]) Z Z Z Z Z Z Z Z De (by simp only [List.length_singleton];omega) Z Z Z Z)) (.inr ⟨51,_,rfl,rfl,rfl,rfl,rfl⟩) Z Z Z Z Z ?_ | refine Ji [45] [48,50] [30,31] [(51,_)] Z Z (fun _=>I1 (Iu (w.K) ([l]) Z Z Z Z Z Z (fun _=>rfl) De (by simp only [List.length_singleton];omega) Z Z Z Z)) (.inr ⟨51,_,rfl,rfl,rfl,rfl,rfl⟩) Z Z Z Z Z ?_
       first | refine AG [44,51] [] Z Z (fun _=>AB (LE EW M9 Z Z Z)) ?_ | refine AI [44,51] Z Z (fun _=>AB (LE EW M9 Z Z Z)) ?_
       refine Bo [] [32] [(6,_)] Z Z (fun _=>I1 (HZ 32 EW Z Z Z Z)) (.inr ⟨6,_,rfl,rfl,rfl,rfl,rfl⟩) Z Z Z Z Z (D2 11 Z Z Z (BY 12 Z Z (U (Bu Z Z Z Z Z Z Z Bp) (AF ⟨rfl,?_⟩))));refine Eg (AE (AE (C3 (ys:=(w.K++ [l]).map Mv) 32 0 1 30 Z Z Z (Nat.le_of_eq (by rw [List.length_map])) (List.take_of_length_le (by rw [List.length_map];exact Nat.le_refl _)) Z Z Z Z Z Z (AH ?_))))
       first | refine J (BN Z Z AL rfl) ?_ | refine J (BO Z Z AL Z Z Z) ?_ | refine J (BP Z Z (rfl) rfl AL rfl) ?_
       refine J (Bz (DO (B3 w l) hok1 (by show (w.K++ [l]).length≤_;rw [List.length_append,List.length_singleton];omega)) Z Z) (AC Z Z ?_)
       first | refine J (Bn Z Z Z) ?_ | refine J (Bm Z Z Z) ?_
       first | refine J (Bn Z Z Z) ?_ | refine J (Bm Z Z Z) ?_
       refine AD Z Z (AD Z Z (AF (AE ?_)));have h0:=OB ht hfR hrR h37 h41;refine AH (AC Z Z ?_)
       first | refine J (ET Z Z) ?_ | refine J (EQ Z Z) ?_
       refine AF ?_
       first | refine Az rfl (fun h59=>?_) (fun h59=>?_) | refine Aw rfl (fun h59=>?_) (fun h59=>?_)
       ·refine AE (AH ?_)
        first | refine J (BN Z Z AL rfl) ?_ | refine J (BO Z Z AL Z Z Z) ?_ | refine J (BP Z Z (rfl) rfl AL rfl) ?_
        refine U (Bu Z Z Z Z Z Z Z Bp) (AD Z Z (AF (Aq ?_)));have hac:acyW (B3 w l)=false:=by simpa using h59
        exact ⟨_,[],[],An rfl,rfl,rfl,by rw [h0,hac];rfl,rfl⟩
       ·refine Ai (AE (AH ?_))
        first | refine J (BN Z Z AL rfl) ?_ | refine J (BO Z Z AL Z Z Z) ?_ | refine J (BP Z Z (rfl) rfl AL rfl) ?_
        refine U (Bu Z Z Z Z Z Z Z Bp) (AD Z Z (AF (Aq ?_)));have hac:acyW (B3 w l)=true:=by simpa using h59
        exact ⟨_,[],[],An rfl,rfl,rfl,by rw [h0,if_pos hac];rfl,rfl⟩
 ·refine BA Z Z Z Z ?_;refine BA Z Z Z Z (BA Z Z Z Z (J (Fo Z Z Z Z) (AF (DM Z Z (Ai (AE (AE (AH ?_))))))))
  first | refine J (A2 rfl Ag Z Z Z) ?_ | refine J (A4 rfl Ag Z Z Z) ?_ | refine J (A5 rfl Ag Z Z Z) ?_ | refine J (A3 rfl Ag Z Z Z) ?_ | refine J (A1 rfl Ag Z Z Z) ?_
  first | refine J (AZ Z Z AW rfl) ?_ | refine J (AX Z Z Z AW rfl) ?_ | refine J (AY Z Z (rfl) rfl AW rfl) ?_
  first | refine J (A2 rfl Be Z Z Z) ?_ | refine J (A4 rfl Be Z Z Z) ?_ | refine J (A5 rfl Be Z Z Z) ?_ | refine J (A3 rfl Be Z Z Z) ?_ | refine J (A1 rfl Be Z Z Z) ?_
  first | refine J (AZ Z Z AR rfl) ?_ | refine J (AX Z Z Z AR rfl) ?_ | refine J (AY Z Z (rfl) rfl AR rfl) ?_
  refine J (Bz (Jx w.R l.f (by omega)) Z Z) ?_
  first | refine J (ET Z Z) ?_ | refine J (EQ Z Z) ?_
  refine AC Z Z ?_
  first | refine It 24 rfl (fun h24=>?_) (fun h24=>?_) | refine I5 24 rfl (fun h24=>?_) (fun h24=>?_)
  ·refine BA Z Z Z Z (BA Z Z Z Z ?_);refine BA Z Z Z Z (BA Z Z Z Z (BA Z Z Z Z (BA Z Z Z Z (J (GZ Z Z Z Z) (AF (IH Z Z (AE (AH ?_))))))))
   first | refine J (BN Z Z AL rfl) ?_ | refine J (BO Z Z AL Z Z Z) ?_ | refine J (BP Z Z (rfl) rfl AL rfl) ?_
   refine U (Bu Z Z Z Z Z Z Z Bp) (AD Z Z (AF (Aq ?_)));have h9:lnkW w l=(w,9):=Mw (by first | exact .inl (Classical.not_not.1 h12) | exact .inr (Classical.not_not.1 h16)) (by first | exact .inl h24 | exact .inr h31);exact ⟨_,[],[],An rfl,rfl,rfl,by rw [h9],rfl⟩
  ·refine Aa Z Z Z ?_
   first | refine J (A2 rfl Ag Z Z Z) ?_ | refine J (A4 rfl Ag Z Z Z) ?_ | refine J (A5 rfl Ag Z Z Z) ?_ | refine J (A3 rfl Ag Z Z Z) ?_ | refine J (A1 rfl Ag Z Z Z) ?_
   refine Aa Z Z Z ?_
   first | refine J (AZ Z Z AW rfl) ?_ | refine J (AX Z Z Z AW rfl) ?_ | refine J (AY Z Z (rfl) rfl AW rfl) ?_
   refine Aa Z Z Z ?_
   first | refine J (A2 rfl Bf Z Z Z) ?_ | refine J (A4 rfl Bf Z Z Z) ?_ | refine J (A5 rfl Bf Z Z Z) ?_ | refine J (A3 rfl Bf Z Z Z) ?_ | refine J (A1 rfl Bf Z Z Z) ?_
   refine Aa Z Z Z ?_
   first | refine J (AZ Z Z AR rfl) ?_ | refine J (AX Z Z Z AR rfl) ?_ | refine J (AY Z Z (rfl) rfl AR rfl) ?_
   refine Aa Z Z Z (J (Bz (Jx w.R l.r (by omega)) Z Z) (Aa Z Z Z ?_))
   first | refine J (ET Z Z) ?_ | refine J (EQ Z Z) ?_
   refine J (Fo Z Z Z Z) (AF ?_)
   first | refine Az rfl (fun h31=>?_) (fun h31=>?_) | refine Aw rfl (fun h31=>?_) (fun h31=>?_)
   ·refine AE (AH ?_)
    first | refine J (BN Z Z AL rfl) ?_ | refine J (BO Z Z AL Z Z Z) ?_ | refine J (BP Z Z (rfl) rfl AL rfl) ?_
    refine U (Bu Z Z Z Z Z Z Z Bp) (AD Z Z (AF (Aq ?_)));have h9:lnkW w l=(w,9):=Mw (by first | exact .inl (Classical.not_not.1 h12) | exact .inr (Classical.not_not.1 h16)) (by first | exact .inl h24 | exact .inr h31);exact ⟨_,[],[],An rfl,rfl,rfl,by rw [h9],rfl⟩
   ·refine Ai (AE (AE ?_));have ht:l.t=0∨l.t=1:=by first | exact .inl (Classical.not_not.1 h12) | exact .inr (Classical.not_not.1 h16)
    have hfR:l.f∈w.R:=Classical.not_not.1 h24;have hrR:l.r∈w.R:=Classical.not_not.1 h31;refine AH ?_
    first | refine J (A2 rfl Be Z Z Z) ?_ | refine J (A4 rfl Be Z Z Z) ?_ | refine J (A5 rfl Be Z Z Z) ?_ | refine J (A3 rfl Be Z Z Z) ?_ | refine J (A1 rfl Be Z Z Z) ?_
    first | refine J (AZ Z Z AR rfl) ?_ | refine J (AX Z Z Z AR rfl) ?_ | refine J (AY Z Z (rfl) rfl AR rfl) ?_
    first | refine J (A2 rfl Bf Z Z Z) ?_ | refine J (A4 rfl Bf Z Z Z) ?_ | refine J (A5 rfl Bf Z Z Z) ?_ | refine J (A3 rfl Bf Z Z Z) ?_ | refine J (A1 rfl Bf Z Z Z) ?_
    first | refine J (AZ Z Z AR rfl) ?_ | refine J (AX Z Z Z AR rfl) ?_ | refine J (AY Z Z (rfl) rfl AR rfl) ?_
    first | refine J (FW Z Z Z) ?_ | refine J (FV Z Z Z) ?_ | refine J (FL Z Z Z) ?_ | refine J (FO Tryz.underlying9 Z Z Z) ?_ | refine J (FR Tryz.underlying9 Z Z Z) ?_ | refine J (FQ Tryz.underlying9 Z Z) ?_ | refine J (FU Tryz.underlying9 Z Z) ?_ | refine J (FT Tryz.underlying9 Z Z) ?_ | refine J (FP Tryz.underlying9 Z Z Z) ?_ | refine J (fSq Tryz.underlying9 Z Z) ?_
    refine AF ?_
    first | refine Az rfl (fun h37=>?_) (fun h37=>?_) | refine Aw rfl (fun h37=>?_) (fun h37=>?_)
    ·refine AE (AH ?_)
     first | refine J (BN Z Z AL rfl) ?_ | refine J (BO Z Z AL Z Z Z) ?_ | refine J (BP Z Z (rfl) rfl AL rfl) ?_
     refine U (Bu Z Z Z Z Z Z Z Bp) (AD Z Z (AF (Aq ?_)));exact ⟨_,[],[],An rfl,rfl,rfl,by rw [Kj ht hfR hrR h37],rfl⟩
    ·refine Ai (AE (AE (AH ?_)))
     first | refine J (BN Z Z AL rfl) ?_ | refine J (BO Z Z AL Z Z Z) ?_ | refine J (BP Z Z (rfl) rfl AL rfl) ?_
     first | refine J (BN Z Z Au rfl) ?_ | refine J (BO Z Z Au Z Z Z) ?_ | refine J (BP Z Z (rfl) rfl Au rfl) ?_
     refine J (Bz (Ll w l (by omega)) Z Z) (AF ?_)
     first | refine Az rfl (fun h41=>?_) (fun h41=>?_) | refine Aw rfl (fun h41=>?_) (fun h41=>?_)
     ·refine AE (AH ?_)
      first | refine J (BN Z Z AL rfl) ?_ | refine J (BO Z Z AL Z Z Z) ?_ | refine J (BP Z Z (rfl) rfl AL rfl) ?_
      refine U (Bu Z Z Z Z Z Z Z Bp) (AD Z Z (AF (Aq ?_)));exact ⟨_,[],[],An rfl,rfl,rfl,by rw [lnk7 ht hfR hrR h37 h41],rfl⟩
     ·refine Ai (AE ?_);have hok1:=hw.with_ ht hfR hrR h37 h41;refine FK [[],[0],[],[],[3],[2,3,4],[],[6],[2,3,4,5,6,7],[0,1,2,3,4,5,6,7,8],[],[0,1,2,3,4,5,6,7,8,9,10]] mixed rfl (D1 ?_)
      first | refine AG [2] [] Z Z (fun _=>AB (A2 rfl Ag Z Z Z)) ?_ | refine AI [2] Z Z (fun _=>AB (A2 rfl Ag Z Z Z)) ?_ | refine AG [2] [] Z Z (fun _=>AB (A4 rfl Ag Z Z Z)) ?_ | refine AI [2] Z Z (fun _=>AB (A4 rfl Ag Z Z Z)) ?_ | refine AG [2] [] Z Z (fun _=>AB (A5 rfl Ag Z Z Z)) ?_ | refine AI [2] Z Z (fun _=>AB (A5 rfl Ag Z Z Z)) ?_ | refine AG [2] [] Z Z (fun _=>AB (A3 rfl Ag Z Z Z)) ?_ | refine AI [2] Z Z (fun _=>AB (A3 rfl Ag Z Z Z)) ?_ | refine AG [2] [] Z Z (fun _=>AB (A1 rfl Ag Z Z Z)) ?_ | refine AI [2] Z Z (fun _=>AB (A1 rfl Ag Z Z Z)) ?_
      first | refine AG [43] [20] Z Z (fun _=>AB (AZ Z Z AW rfl)) ?_ | refine AG [43] [20] Z Z (fun _=>AB (AX Z Z Z AW rfl)) ?_ | refine AG [43] [20] Z Z (fun _=>AB (AY Z Z (rfl) rfl AW rfl)) ?_
      refine Bo [] [30] [(45,_)] Z Z (fun _=>I1 (Fq 30 De Z Z Z Z Z Z Z Z)) (.inr ⟨45,_,rfl,rfl,rfl,rfl,rfl⟩) Z Z Z Z Z ?_
      first | refine AG [2] [] Z Z (fun _=>AB (A2 rfl A0 Z Z Z)) ?_ | refine AI [2] Z Z (fun _=>AB (A2 rfl A0 Z Z Z)) ?_ | refine AG [2] [] Z Z (fun _=>AB (A4 rfl A0 Z Z Z)) ?_ | refine AI [2] Z Z (fun _=>AB (A4 rfl A0 Z Z Z)) ?_ | refine AG [2] [] Z Z (fun _=>AB (A5 rfl A0 Z Z Z)) ?_ | refine AI [2] Z Z (fun _=>AB (A5 rfl A0 Z Z Z)) ?_ | refine AG [2] [] Z Z (fun _=>AB (A3 rfl A0 Z Z Z)) ?_ | refine AI [2] Z Z (fun _=>AB (A3 rfl A0 Z Z Z)) ?_ | refine AG [2] [] Z Z (fun _=>AB (A1 rfl A0 Z Z Z)) ?_ | refine AI [2] Z Z (fun _=>AB (A1 rfl A0 Z Z Z)) ?_
      first | refine AG [46] [20] Z Z (fun _=>AB (AZ Z Z A6 rfl)) ?_ | refine AG [46] [20] Z Z (fun _=>AB (AX Z Z Z A6 rfl)) ?_ | refine AG [46] [20] Z Z (fun _=>AB (AY Z Z (rfl) rfl A6 rfl)) ?_
      refine Bo [45,47] [30] [(48,_)] Z Z (fun _=>I1 (Iu (emb:=Mv) [] w.K Z Z Z Z Z Z (fun _=>rfl) De (by show (0+w.K.length)*40≤_;omega) Z Z Z Z)) (.inr ⟨48,_,rfl,rfl,rfl,rfl,rfl⟩) Z Z Z Z Z ?_
      first | refine AG [3] [21] Z Z (fun _=>AB (BN Z Z Au rfl)) ?_ | refine AG [3] [21] Z Z (fun _=>AB (BO Z Z Au Z Z Z)) ?_ | refine AG [3] [21] Z Z (fun _=>AB (BP Z Z (rfl) rfl Au rfl)) ?_
      refine Bo [49] [31] [(50,_)] Z Z (fun _=>I1 (Fq 31 De Z Z Z Z Z Z Z Z)) (.inr ⟨50,_,rfl,rfl,rfl,rfl,rfl⟩) Z Z Z Z Z ?_
      first | refine Ji [45] [48,50] [30,31] [(51,_)] Z Z (fun _=>I1 (IC (w.K) ([l]) Z Z Z Z Z Z Z Z De (by simp only [List.length_singleton];omega) Z Z Z Z)) (.inr ⟨51,_,rfl,rfl,rfl,rfl,rfl⟩) Z Z Z Z Z ?_ | refine Ji [45] [48,50] [30,31] [(51,_)] Z Z (fun _=>I1 (Iu (w.K) ([l]) Z Z Z Z Z Z (fun _=>rfl) De (by simp only [List.length_singleton];omega) Z Z Z Z)) (.inr ⟨51,_,rfl,rfl,rfl,rfl,rfl⟩) Z Z Z Z Z ?_
      first | refine AG [44,51] [] Z Z (fun _=>AB (LE EW M9 Z Z Z)) ?_ | refine AI [44,51] Z Z (fun _=>AB (LE EW M9 Z Z Z)) ?_
      refine Bo [] [32] [(6,_)] Z Z (fun _=>I1 (HZ 32 EW Z Z Z Z)) (.inr ⟨6,_,rfl,rfl,rfl,rfl,rfl⟩) Z Z Z Z Z (D2 11 Z Z Z (BY 12 Z Z (U (Bu Z Z Z Z Z Z Z Bp) (AF ⟨rfl,?_⟩))));refine Eg (AE (AE (C3 (ys:=(w.K++ [l]).map Mv) 32 0 1 30 Z Z Z (Nat.le_of_eq (by rw [List.length_map])) (List.take_of_length_le (by rw [List.length_map];exact Nat.le_refl _)) Z Z Z Z Z Z (AH ?_))))
      first | refine J (BN Z Z AL rfl) ?_ | refine J (BO Z Z AL Z Z Z) ?_ | refine J (BP Z Z (rfl) rfl AL rfl) ?_
      refine J (Bz (DO (B3 w l) hok1 (by show (w.K++ [l]).length≤_;rw [List.length_append,List.length_singleton];omega)) Z Z) (AC Z Z ?_)
      first | refine J (Bn Z Z Z) ?_ | refine J (Bm Z Z Z) ?_
      first | refine J (Bn Z Z Z) ?_ | refine J (Bm Z Z Z) ?_
      refine AD Z Z (AD Z Z (AF (AE ?_)));have h0:=OB ht hfR hrR h37 h41;refine AH (AC Z Z ?_)
      first | refine J (ET Z Z) ?_ | refine J (EQ Z Z) ?_
      refine AF ?_
      first | refine Az rfl (fun h59=>?_) (fun h59=>?_) | refine Aw rfl (fun h59=>?_) (fun h59=>?_)
      ·refine AE (AH ?_)
       first | refine J (BN Z Z AL rfl) ?_ | refine J (BO Z Z AL Z Z Z) ?_ | refine J (BP Z Z (rfl) rfl AL rfl) ?_
       refine U (Bu Z Z Z Z Z Z Z Bp) (AD Z Z (AF (Aq ?_)));have hac:acyW (B3 w l)=false:=by simpa using h59
       exact ⟨_,[],[],An rfl,rfl,rfl,by rw [h0,hac];rfl,rfl⟩
      ·refine Ai (AE (AH ?_))
       first | refine J (BN Z Z AL rfl) ?_ | refine J (BO Z Z AL Z Z Z) ?_ | refine J (BP Z Z (rfl) rfl AL rfl) ?_
       refine U (Bu Z Z Z Z Z Z Z Bp) (AD Z Z (AF (Aq ?_)));have hac:acyW (B3 w l)=true:=by simpa using h59
       exact ⟨_,[],[],An rfl,rfl,rfl,by rw [h0,if_pos hac];rfl,rfl⟩
theorem lw_neC (a b:Lw):(!BD (lwC a) (lwC b))=decide (¬a=b):=by rw [R3];simp
def Ia (l:Lw) (K:List Lw) (k:Nat):List Lw:=(K.take k).filter fun x=>!decide (x=l)
theorem Q9 {l:Lw} {K:List Lw} {k:Nat} (hk:k<K.length) (h:¬K[k]=l):Ia l K (k+1)=Ia l K k++ [K[k]]:=by
 unfold Ia;rw [List.take_succ_eq_append_getElem hk,List.filter_append];simp [h]
theorem PW {l:Lw} {K:List Lw} {k:Nat} (hk:k<K.length) (h:K[k]=l):Ia l K (k+1)=Ia l K k:=by
 unfold Ia;rw [List.take_succ_eq_append_getElem hk,List.filter_append];simp [h]
theorem Q8 (l:Lw) (K:List Lw) (k:Nat):(Ia l K k).length≤K.length:=by
 unfold Ia;exact Nat.le_trans (List.length_filter_le _ _) (by rw [List.length_take];omega)
set_option maxHeartbeats 4000000 in
theorem MW (w:Ws) (hw:B1 w) (hK:w.K.length≤1000000) (l:Lw):Ak Tryz.prog 39 [.d (Jw w),.d (Mv l)] (.tup [Jw (unlW w l).1,B7 (unlW w l).2]):=by
 have hfew:=hw.few;refine CP Tryz.func39 Z Z Tryz.ntmps39 Z Z Z fun F hF=>(AE ?_);refine AH (U (Gl 20 Z Z Z Z Z Z Z) (U (Gl 21 Z Z Z Z Z Z Z) (U (HZ 22 EW Z Z Z Z) (AD Z Z (AF (AE (AE (AH ?_))))))))
 first | refine J (BN Z Z AL rfl) ?_ | refine J (BO Z Z AL Z Z Z) ?_ | refine J (BP Z Z (rfl) rfl AL rfl) ?_
 first | refine J (BN Z Z Au rfl) ?_ | refine J (BO Z Z Au Z Z Z) ?_ | refine J (BP Z Z (rfl) rfl Au rfl) ?_
 refine J (Bz (Ll w l (by omega)) Z Z) ?_
 first | refine J (ET Z Z) ?_ | refine J (EQ Z Z) ?_
 refine AF ?_
 first | refine Az rfl (fun h13=>?_) (fun h13=>?_) | refine Aw rfl (fun h13=>?_) (fun h13=>?_)
 ·refine AE (AH ?_)
  first | refine J (BN Z Z AL rfl) ?_ | refine J (BO Z Z AL Z Z Z) ?_ | refine J (BP Z Z (rfl) rfl AL rfl) ?_
  refine U (Bu Z Z Z Z Z Z Z Bp) (AD Z Z (AF (Aq ?_)));exact ⟨_,[],[],An rfl,rfl,rfl,by rw [unl9 h13],rfl⟩
 ·refine Ai (AE ?_);have hlK:l∈w.K:=Classical.not_not.1 h13;have h0:=unl0 hlK;refine AH ?_
  first | refine J (A2 rfl Ag Z Z Z) ?_ | refine J (A4 rfl Ag Z Z Z) ?_ | refine J (A5 rfl Ag Z Z Z) ?_ | refine J (A3 rfl Ag Z Z Z) ?_ | refine J (A1 rfl Ag Z Z Z) ?_
  first | refine J (AZ Z Z AW rfl) ?_ | refine J (AX Z Z Z AW rfl) ?_ | refine J (AY Z Z (rfl) rfl AW rfl) ?_
  refine J (LE EW M9 Z Z Z) (U (HZ 32 EW Z Z Z Z) (U (Bu Z Z Z Z Z Z Z Bp) ?_));refine AF (AE (AE (AH (AD Z Z (AF (BH (DG 32 0 1 33 De Z Z Z Z Z Z Z (Db (α:=Nat×List Lw) (fun q=>⟨51,[(2,(.ptr 20 0 0)),(3,(.ptr 21 0 0)),(4,(.ptr 22 0 0)),(6,(.ptr 32 0 0)),(7,(.d (natD q.1)))],[FE 20 w,(21,[.blk 44 [.d (AU l.f),.d (B7 l.t),.d (AU l.r)]]),(22,[.blk 28 [.d (.sl (some true) []),.d (.sl (some true) [])]]),(32,[.blk 28 [.d (stsD w.R),.own 33 0 q.2.length]]),(33,[.rowD 44 3 (q.2.map Mv)])]⟩) (fun q=>q.1≤w.K.length∧q.2=Ia l w.K q.1) (fun q=>w.K.length - q.1) ((0,[])) (⟨Nat.zero_le _,rfl⟩) (At hF [20,21,22,32,33] Z Z ⟨rfl,rfl,rfl,rfl,rfl,trivial⟩) ?_))))))));rintro ⟨k,acc⟩ ⟨hk,hacc⟩;dsimp only at hk hacc⊢;refine AE (AE (AH (AC Z Z ?_)))
  first | refine J (A2 rfl A0 Z Z Z) ?_ | refine J (A4 rfl A0 Z Z Z) ?_ | refine J (A5 rfl A0 Z Z Z) ?_ | refine J (A3 rfl A0 Z Z Z) ?_ | refine J (A1 rfl A0 Z Z Z) ?_
  first | refine J (AZ Z Z A6 rfl) ?_ | refine J (AX Z Z Z A6 rfl) ?_ | refine J (AY Z Z (rfl) rfl A6 rfl) ?_
  refine J (Bs rfl (List.length_map ..) Tryz.underlying26 rfl) ?_
  first | refine J (D3 Z Z Z) ?_ | refine J (D4 Z Z Z) ?_
  refine AF ?_
  first | refine Az rfl (fun h22=>?_) (fun h22=>?_) | refine Aw rfl (fun h22=>?_) (fun h22=>?_)
  ·refine Ai (AE (BH (AE ?_)));have hkl:k<w.K.length:=F1 h22;have hal:acc.length≤w.K.length:=by rw [hacc];exact Q8 _ _ _
   refine FK [[],[0],[],[0,1,2],[0,1,2,3],[],[0,1,2,3,4,5]] mixed rfl (D1 ?_)
   first | refine AG [2] [] Z Z (fun _=>AB (A2 rfl A0 Z Z Z)) ?_ | refine AI [2] Z Z (fun _=>AB (A2 rfl A0 Z Z Z)) ?_ | refine AG [2] [] Z Z (fun _=>AB (A4 rfl A0 Z Z Z)) ?_ | refine AI [2] Z Z (fun _=>AB (A4 rfl A0 Z Z Z)) ?_ | refine AG [2] [] Z Z (fun _=>AB (A5 rfl A0 Z Z Z)) ?_ | refine AI [2] Z Z (fun _=>AB (A5 rfl A0 Z Z Z)) ?_ | refine AG [2] [] Z Z (fun _=>AB (A3 rfl A0 Z Z Z)) ?_ | refine AI [2] Z Z (fun _=>AB (A3 rfl A0 Z Z Z)) ?_ | refine AG [2] [] Z Z (fun _=>AB (A1 rfl A0 Z Z Z)) ?_ | refine AI [2] Z Z (fun _=>AB (A1 rfl A0 Z Z Z)) ?_
   first | refine AG [25] [20] Z Z (fun _=>AB (AZ Z Z A6 rfl)) ?_ | refine AG [25] [20] Z Z (fun _=>AB (AX Z Z Z A6 rfl)) ?_ | refine AG [25] [20] Z Z (fun _=>AB (AY Z Z (rfl) rfl A6 rfl)) ?_
   first | refine AG [7] [] Z Z (fun _=>AB (A8 Z Z)) ?_ | refine AI [7] Z Z (fun _=>AB (A8 Z Z)) ?_
   first | refine AG [26,27] [] Z Z (fun _=>AB (BE (k) Z Z (rfl) (BJ hkl) Tryz.underlying26 rfl BB rfl)) ?_ | refine AI [26,27] Z Z (fun _=>AB (BE (k) Z Z (rfl) (BJ hkl) Tryz.underlying26 rfl BB rfl)) ?_ | refine AG [26,27] [] Z Z (fun _=>AB (BF (k) Z Z (rfl) (BJ hkl) rfl Tryz.underlying26 BB rfl)) ?_ | refine AI [26,27] Z Z (fun _=>AB (BF (k) Z Z (rfl) (BJ hkl) rfl Tryz.underlying26 BB rfl)) ?_
   first | refine AG [28] [] Z Z (fun _=>AB (BN Z Z Au rfl)) ?_ | refine AI [28] Z Z (fun _=>AB (BN Z Z Au rfl)) ?_ | refine AG [28] [] Z Z (fun _=>AB (BO Z Z Au Z Z Z)) ?_ | refine AI [28] Z Z (fun _=>AB (BO Z Z Au Z Z Z)) ?_ | refine AG [28] [] Z Z (fun _=>AB (BP Z Z (rfl) rfl Au rfl)) ?_ | refine AI [28] Z Z (fun _=>AB (BP Z Z (rfl) rfl Au rfl)) ?_
   first | refine AG [3] [21] Z Z (fun _=>AB (BN Z Z Au rfl)) ?_ | refine AG [3] [21] Z Z (fun _=>AB (BO Z Z Au Z Z Z)) ?_ | refine AG [3] [21] Z Z (fun _=>AB (BP Z Z (rfl) rfl Au rfl)) ?_
   refine D2 6 Z Z Z (BY 7 Z Z (J (MJ (la:=lwC w.K[k]) (lb:=lwC l) (ds:=lwT) (by kernel_rfl) (by kernel_rfl) (by kernel_rfl) Z Z Z Z (HP _) (HP _) (lw_neC _ _) rfl) (AF ⟨rfl,?_⟩)));refine Eg ?_
   first | refine Az rfl (fun h31=>?_) (fun h31=>?_) | refine Aw rfl (fun h31=>?_) (fun h31=>?_)
   ·refine FK [[],[0],[],[2],[],[2,3,4],[2,3,4,5],[2,3,4,5,6],[0,1,2,3,4,5,6,7],[0,1,2,3,4,5,6,7,8],[0,1,2,3,4,5,6,7,8,9]] mixed rfl (D1 ?_)
    first | refine AG [6] [] Z Z (fun _=>AB (A2 rfl A0 Z Z Z)) ?_ | refine AI [6] Z Z (fun _=>AB (A2 rfl A0 Z Z Z)) ?_ | refine AG [6] [] Z Z (fun _=>AB (A4 rfl A0 Z Z Z)) ?_ | refine AI [6] Z Z (fun _=>AB (A4 rfl A0 Z Z Z)) ?_ | refine AG [6] [] Z Z (fun _=>AB (A5 rfl A0 Z Z Z)) ?_ | refine AI [6] Z Z (fun _=>AB (A5 rfl A0 Z Z Z)) ?_ | refine AG [6] [] Z Z (fun _=>AB (A3 rfl A0 Z Z Z)) ?_ | refine AI [6] Z Z (fun _=>AB (A3 rfl A0 Z Z Z)) ?_ | refine AG [6] [] Z Z (fun _=>AB (A1 rfl A0 Z Z Z)) ?_ | refine AI [6] Z Z (fun _=>AB (A1 rfl A0 Z Z Z)) ?_
    first | refine AG [32] [32] Z Z (fun _=>AB (AZ Z Z A6 rfl)) ?_ | refine AG [32] [32] Z Z (fun _=>AB (AX Z Z Z A6 rfl)) ?_ | refine AG [32] [32] Z Z (fun _=>AB (AY Z Z (rfl) rfl A6 rfl)) ?_
    first | refine AG [2] [] Z Z (fun _=>AB (A2 rfl A0 Z Z Z)) ?_ | refine AI [2] Z Z (fun _=>AB (A2 rfl A0 Z Z Z)) ?_ | refine AG [2] [] Z Z (fun _=>AB (A4 rfl A0 Z Z Z)) ?_ | refine AI [2] Z Z (fun _=>AB (A4 rfl A0 Z Z Z)) ?_ | refine AG [2] [] Z Z (fun _=>AB (A5 rfl A0 Z Z Z)) ?_ | refine AI [2] Z Z (fun _=>AB (A5 rfl A0 Z Z Z)) ?_ | refine AG [2] [] Z Z (fun _=>AB (A3 rfl A0 Z Z Z)) ?_ | refine AI [2] Z Z (fun _=>AB (A3 rfl A0 Z Z Z)) ?_ | refine AG [2] [] Z Z (fun _=>AB (A1 rfl A0 Z Z Z)) ?_ | refine AI [2] Z Z (fun _=>AB (A1 rfl A0 Z Z Z)) ?_
    first | refine AG [34] [20] Z Z (fun _=>AB (AZ Z Z A6 rfl)) ?_ | refine AG [34] [20] Z Z (fun _=>AB (AX Z Z Z A6 rfl)) ?_ | refine AG [34] [20] Z Z (fun _=>AB (AY Z Z (rfl) rfl A6 rfl)) ?_
    first | refine AG [7] [] Z Z (fun _=>AB (A8 Z Z)) ?_ | refine AI [7] Z Z (fun _=>AB (A8 Z Z)) ?_
    first | refine AG [35,36] [] Z Z (fun _=>AB (BE (k) Z Z (rfl) (BJ hkl) Tryz.underlying26 rfl BB rfl)) ?_ | refine AI [35,36] Z Z (fun _=>AB (BE (k) Z Z (rfl) (BJ hkl) Tryz.underlying26 rfl BB rfl)) ?_ | refine AG [35,36] [] Z Z (fun _=>AB (BF (k) Z Z (rfl) (BJ hkl) rfl Tryz.underlying26 BB rfl)) ?_ | refine AI [35,36] Z Z (fun _=>AB (BF (k) Z Z (rfl) (BJ hkl) rfl Tryz.underlying26 BB rfl)) ?_
    first | refine AG [37] [] Z Z (fun _=>AB (BN Z Z Au rfl)) ?_ | refine AI [37] Z Z (fun _=>AB (BN Z Z Au rfl)) ?_ | refine AG [37] [] Z Z (fun _=>AB (BO Z Z Au Z Z Z)) ?_ | refine AI [37] Z Z (fun _=>AB (BO Z Z Au Z Z Z)) ?_ | refine AG [37] [] Z Z (fun _=>AB (BP Z Z (rfl) rfl Au rfl)) ?_ | refine AI [37] Z Z (fun _=>AB (BP Z Z (rfl) rfl Au rfl)) ?_
    refine Bo [38] [34] [(39,_)] Z Z (fun _=>I1 (Fq 34 De Z Z Z Z Z Z Z Z)) (.inr ⟨39,_,rfl,rfl,rfl,rfl,rfl⟩) Z Z Z Z Z (D2 8 Z Z Z (BY 9 Z Z ?_))
    first | refine U (IC (acc) ([w.K[k]]) Z Z Z Z Z Z Z Z De (by simp only [List.length_singleton];omega) Z Z Z Z) ?_ | refine U (Iu (acc) ([w.K[k]]) Z Z Z Z Z Z (fun _=>rfl) De (by simp only [List.length_singleton];omega) Z Z Z Z) ?_
    refine AF ⟨rfl,?_⟩;refine BY 10 Z Z ?_
    first | refine J (A2 rfl A0 Z Z Z) ?_ | refine J (A4 rfl A0 Z Z Z) ?_ | refine J (A5 rfl A0 Z Z Z) ?_ | refine J (A3 rfl A0 Z Z Z) ?_ | refine J (A1 rfl A0 Z Z Z) ?_
    refine AF ⟨rfl,?_⟩;refine BY 11 Z Z (U (Bu Z Z Z Z Z Z Z sz26) (AF ⟨rfl,?_⟩));refine Eg (AH (AC Z Z (J (CG Z Z (IntWalk.i64_in _ (by omega)) rfl) (AD Z Z (AF ?_)))));exact ⟨(k+1,acc++ [w.K[k]]),⟨hkl,by show _=Ia l w.K (k+1);rw [Q9 hkl h31,hacc]⟩,by show w.K.length - (k+1)<w.K.length - k;omega,At hF [20,21,22,32,33] rfl (rfl) ⟨rfl,rfl,rfl,rfl,rfl,trivial⟩⟩
   ·refine Ai (AH (AC Z Z (J (CG Z Z (IntWalk.i64_in _ (by omega)) rfl) (AD Z Z (AF ?_)))));exact ⟨(k+1,acc),⟨hkl,by show _=Ia l w.K (k+1);rw [PW hkl (Classical.not_not.1 h31),hacc]⟩,by show w.K.length - (k+1)<w.K.length - k;omega,At hF [20,21,22,32,33] rfl (rfl) ⟨rfl,rfl,rfl,rfl,rfl,trivial⟩⟩
  ·refine C5 (AE (AE ?_));have hke:k=w.K.length:=by have:=h22;omega
   have hac:acc=(C8 w l).K:=by rw [hacc,hke];unfold Ia C8;rw [List.take_length]
   refine C3 (ys:=acc.map Mv) 32 0 1 33 Z Z Z (Nat.le_of_eq (by rw [List.length_map])) (List.take_of_length_le (by rw [List.length_map];exact Nat.le_refl _)) Z Z Z Z Z Z ?_;rw [hac];refine AH ?_
   first | refine J (BN Z Z AL rfl) ?_ | refine J (BO Z Z AL Z Z Z) ?_ | refine J (BP Z Z (rfl) rfl AL rfl) ?_
   refine J (Bz (DO (C8 w l) (hw.sans l) (Nat.le_trans (List.length_filter_le _ _) (by omega))) Z Z) (AC Z Z ?_)
   first | refine J (Bn Z Z Z) ?_ | refine J (Bm Z Z Z) ?_
   first | refine J (Bn Z Z Z) ?_ | refine J (Bm Z Z Z) ?_
   refine AD Z Z (AD Z Z (AF (AE (AH (AC Z Z ?_)))))
   first | refine J (ET Z Z) ?_ | refine J (EQ Z Z) ?_
   refine AF ?_
   first | refine Az rfl (fun h48=>?_) (fun h48=>?_) | refine Aw rfl (fun h48=>?_) (fun h48=>?_)
   ·refine AE (AH ?_)
    first | refine J (BN Z Z AL rfl) ?_ | refine J (BO Z Z AL Z Z Z) ?_ | refine J (BP Z Z (rfl) rfl AL rfl) ?_
    refine U (Bu Z Z Z Z Z Z Z Bp) (AD Z Z (AF (Aq ?_)));have hc:acyW (C8 w l)=false:=by simpa using h48
    exact ⟨_,[],[],An rfl,rfl,rfl,by rw [h0,hc];rfl,rfl⟩
   ·refine Ai (AE (AH ?_))
    first | refine J (BN Z Z AL rfl) ?_ | refine J (BO Z Z AL Z Z Z) ?_ | refine J (BP Z Z (rfl) rfl AL rfl) ?_
    refine U (Bu Z Z Z Z Z Z Z Bp) (AD Z Z (AF (Aq ?_)));have hc:acyW (C8 w l)=true:=by simpa using h48
    exact ⟨_,[],[],An rfl,rfl,rfl,by rw [h0,if_pos hc];rfl,rfl⟩
def Ie (x:St) (R:List St) (k:Nat):List St:=(R.take k).filter fun y=>!decide (y=x)
theorem SC {x:St} {R:List St} {k:Nat} (hk:k<R.length) (h:¬R[k]=x):Ie x R (k+1)=Ie x R k++ [R[k]]:=by
 unfold Ie;rw [List.take_succ_eq_append_getElem hk,List.filter_append];simp [h]
theorem Px {x:St} {R:List St} {k:Nat} (hk:k<R.length) (h:R[k]=x):Ie x R (k+1)=Ie x R k:=by
 unfold Ie;rw [List.take_succ_eq_append_getElem hk,List.filter_append];simp [h]
theorem SB (x:St) (R:List St) (k:Nat):(Ie x R k).length≤R.length:=by
 unfold Ie;exact Nat.le_trans (List.length_filter_le _ _) (by rw [List.length_take];omega)
def Ht (x:St) (K:List Lw) (k:Nat):List Lw:=(K.take k).filter fun l=>!decide (l.f=x) && !decide (l.r=x)
theorem SE {x:St} {K:List Lw} {k:Nat} (hk:k<K.length) (h1:¬K[k].f=x) (h2:¬K[k].r=x):Ht x K (k+1)=Ht x K k++ [K[k]]:=by
 unfold Ht;rw [List.take_succ_eq_append_getElem hk,List.filter_append];simp [h1,h2]
theorem Kw {x:St} {K:List Lw} {k:Nat} (hk:k<K.length) (h:K[k].f=x∨K[k].r=x):Ht x K (k+1)=Ht x K k:=by
 unfold Ht;rw [List.take_succ_eq_append_getElem hk,List.filter_append];rcases h with h | h<;>simp [h]
theorem SD (x:St) (K:List Lw) (k:Nat):(Ht x K k).length≤K.length:=by
 unfold Ht;exact Nat.le_trans (List.length_filter_le _ _) (by rw [List.length_take];omega)
set_option maxHeartbeats 4000000 in
theorem MX (w:Ws) (hw:B1 w) (hK:w.K.length≤1000000) (x:St):Ak Tryz.prog 40 [.d (Jw w),.d (AU x)] (.tup [Jw (remW w x).1,B7 (remW w x).2]):=by
 have hfew:=hw.few;refine CP Tryz.func40 Z Z Tryz.ntmps40 Z Z Z fun F hF=>?_;refine AE (AH (U (Gl 20 Z Z Z Z Z Z Z) (U (HZ 21 EW Z Z Z Z) (AD Z Z (AF (AE (AE (AH ?_))))))))
 first | refine J (A2 rfl Ag Z Z Z) ?_ | refine J (A4 rfl Ag Z Z Z) ?_ | refine J (A5 rfl Ag Z Z Z) ?_ | refine J (A3 rfl Ag Z Z Z) ?_ | refine J (A1 rfl Ag Z Z Z) ?_
 first | refine J (AZ Z Z AW rfl) ?_ | refine J (AX Z Z Z AW rfl) ?_ | refine J (AY Z Z (rfl) rfl AW rfl) ?_
 refine AC Z Z (J (Bz (Jx w.R x (by omega)) Z Z) ?_)
 first | refine J (ET Z Z) ?_ | refine J (EQ Z Z) ?_
 refine AF ?_
 first | refine Az rfl (fun h15=>?_) (fun h15=>?_) | refine Aw rfl (fun h15=>?_) (fun h15=>?_)
 ·refine AE (AH ?_)
  first | refine J (BN Z Z AL rfl) ?_ | refine J (BO Z Z AL Z Z Z) ?_ | refine J (BP Z Z (rfl) rfl AL rfl) ?_
  refine U (Bu Z Z Z Z Z Z Z Bp) (AD Z Z (AF (Aq ?_)));exact ⟨_,[],[],An rfl,rfl,rfl,by rw [rem9 h15],rfl⟩
 ·refine Ai (AE ?_);have hxR:x∈w.R:=Classical.not_not.1 h15;have h0:=rem0 hxR;refine AH (J (LE EW M9 Z Z Z) (U (HZ 32 EW Z Z Z Z) (U (Bu Z Z Z Z Z Z Z Bp) ?_)));refine AF (AE (AE (AH (AD Z Z (AF (BH (DG 32 0 0 33 Ba Z Z Z Z Z Z Z (Db (α:=Nat×List St) (fun q=>⟨86,[(1,.d (AU x)),(2,(.ptr 20 0 0)),(4,(.ptr 21 0 0)),(6,(.ptr 32 0 0)),(7,(.d (natD q.1)))],[FE 20 w,(21,[.blk 28 [.d (.sl (some true) []),.d (.sl (some true) [])]]),(32,[.blk 28 [.own 33 0 q.2.length,.d (.sl (some true) [])]]),(33,[.rowD 9 1 (q.2.map AU)])]⟩) (fun q=>q.1≤w.R.length∧q.2=Ie x w.R q.1) (fun q=>w.R.length - q.1) ((0,[])) (⟨Nat.zero_le _,rfl⟩) (At hF [20,21,32,33] Z Z ⟨rfl,rfl,rfl,rfl,rfl,trivial⟩) ?_))))))));rintro ⟨k,acc⟩ ⟨hk,hacc⟩;dsimp only at hk hacc⊢;refine AE (AE (AH (AC Z Z ?_)))
  first | refine J (A2 rfl Ag Z Z Z) ?_ | refine J (A4 rfl Ag Z Z Z) ?_ | refine J (A5 rfl Ag Z Z Z) ?_ | refine J (A3 rfl Ag Z Z Z) ?_ | refine J (A1 rfl Ag Z Z Z) ?_
  first | refine J (AZ Z Z AW rfl) ?_ | refine J (AX Z Z Z AW rfl) ?_ | refine J (AY Z Z (rfl) rfl AW rfl) ?_
  refine J (Bs rfl (List.length_map ..) Tryz.underlying25 rfl) ?_
  first | refine J (D3 Z Z Z) ?_ | refine J (D4 Z Z Z) ?_
  refine AF ?_
  first | refine Az rfl (fun h22=>?_) (fun h22=>?_) | refine Aw rfl (fun h22=>?_) (fun h22=>?_)
  ·refine Ai (AE (BH (AE ?_)));have hkl:k<w.R.length:=F1 h22;have hal:acc.length≤w.R.length:=by rw [hacc];exact SB _ _ _
   refine AH ?_
   first | refine J (A2 rfl Ag Z Z Z) ?_ | refine J (A4 rfl Ag Z Z Z) ?_ | refine J (A5 rfl Ag Z Z Z) ?_ | refine J (A3 rfl Ag Z Z Z) ?_ | refine J (A1 rfl Ag Z Z Z) ?_
   first | refine J (AZ Z Z AW rfl) ?_ | refine J (AX Z Z Z AW rfl) ?_ | refine J (AY Z Z (rfl) rfl AW rfl) ?_
   refine AC Z Z ?_
   first | refine J (BE (k) Z Z (rfl) (CL hkl) Tryz.underlying25 rfl DW rfl) ?_ | refine J (BF (k) Z Z (rfl) (CL hkl) rfl Tryz.underlying25 DW rfl) ?_
   first | refine J (AZ Z Z AR rfl) ?_ | refine J (AX Z Z Z AR rfl) ?_ | refine J (AY Z Z (rfl) rfl AR rfl) ?_
   refine AC Z Z ?_
   first | refine J (I8 Z Z Z) ?_ | refine J (I7 Z Z Z) ?_ | refine J (IF Z Z Z) ?_ | refine J (I2 Tryz.underlying9 Z Z Z) ?_ | refine J (I4 Tryz.underlying9 Z Z Z) ?_ | refine J (st_neqN Tryz.underlying9 Z Z) ?_ | refine J (st_neqPr Tryz.underlying9 Z Z) ?_ | refine J (st_neqMz Tryz.underlying9 Z Z) ?_ | refine J (I3 Tryz.underlying9 Z Z Z) ?_ | refine J (st_neqFN Tryz.underlying9 Z Z) ?_
   refine AF ?_
   first | refine Az rfl (fun h31=>?_) (fun h31=>?_) | refine Aw rfl (fun h31=>?_) (fun h31=>?_)
   ·refine FK [[],[0],[],[2],[],[2,3,4],[2,3,4,5],[2,3,4,5,6],[0,1,2,3,4,5,6,7],[0,1,2,3,4,5,6,7,8],[0,1,2,3,4,5,6,7,8,9]] mixed rfl (D1 ?_)
    first | refine AG [6] [] Z Z (fun _=>AB (A2 rfl Ag Z Z Z)) ?_ | refine AI [6] Z Z (fun _=>AB (A2 rfl Ag Z Z Z)) ?_ | refine AG [6] [] Z Z (fun _=>AB (A4 rfl Ag Z Z Z)) ?_ | refine AI [6] Z Z (fun _=>AB (A4 rfl Ag Z Z Z)) ?_ | refine AG [6] [] Z Z (fun _=>AB (A5 rfl Ag Z Z Z)) ?_ | refine AI [6] Z Z (fun _=>AB (A5 rfl Ag Z Z Z)) ?_ | refine AG [6] [] Z Z (fun _=>AB (A3 rfl Ag Z Z Z)) ?_ | refine AI [6] Z Z (fun _=>AB (A3 rfl Ag Z Z Z)) ?_ | refine AG [6] [] Z Z (fun _=>AB (A1 rfl Ag Z Z Z)) ?_ | refine AI [6] Z Z (fun _=>AB (A1 rfl Ag Z Z Z)) ?_
    first | refine AG [32] [32] Z Z (fun _=>AB (AZ Z Z AW rfl)) ?_ | refine AG [32] [32] Z Z (fun _=>AB (AX Z Z Z AW rfl)) ?_ | refine AG [32] [32] Z Z (fun _=>AB (AY Z Z (rfl) rfl AW rfl)) ?_
    first | refine AG [2] [] Z Z (fun _=>AB (A2 rfl Ag Z Z Z)) ?_ | refine AI [2] Z Z (fun _=>AB (A2 rfl Ag Z Z Z)) ?_ | refine AG [2] [] Z Z (fun _=>AB (A4 rfl Ag Z Z Z)) ?_ | refine AI [2] Z Z (fun _=>AB (A4 rfl Ag Z Z Z)) ?_ | refine AG [2] [] Z Z (fun _=>AB (A5 rfl Ag Z Z Z)) ?_ | refine AI [2] Z Z (fun _=>AB (A5 rfl Ag Z Z Z)) ?_ | refine AG [2] [] Z Z (fun _=>AB (A3 rfl Ag Z Z Z)) ?_ | refine AI [2] Z Z (fun _=>AB (A3 rfl Ag Z Z Z)) ?_ | refine AG [2] [] Z Z (fun _=>AB (A1 rfl Ag Z Z Z)) ?_ | refine AI [2] Z Z (fun _=>AB (A1 rfl Ag Z Z Z)) ?_
    first | refine AG [34] [20] Z Z (fun _=>AB (AZ Z Z AW rfl)) ?_ | refine AG [34] [20] Z Z (fun _=>AB (AX Z Z Z AW rfl)) ?_ | refine AG [34] [20] Z Z (fun _=>AB (AY Z Z (rfl) rfl AW rfl)) ?_
    first | refine AG [7] [] Z Z (fun _=>AB (A8 Z Z)) ?_ | refine AI [7] Z Z (fun _=>AB (A8 Z Z)) ?_
    first | refine AG [35,36] [] Z Z (fun _=>AB (BE (k) Z Z (rfl) (CL hkl) Tryz.underlying25 rfl DW rfl)) ?_ | refine AI [35,36] Z Z (fun _=>AB (BE (k) Z Z (rfl) (CL hkl) Tryz.underlying25 rfl DW rfl)) ?_ | refine AG [35,36] [] Z Z (fun _=>AB (BF (k) Z Z (rfl) (CL hkl) rfl Tryz.underlying25 DW rfl)) ?_ | refine AI [35,36] Z Z (fun _=>AB (BF (k) Z Z (rfl) (CL hkl) rfl Tryz.underlying25 DW rfl)) ?_
    first | refine AG [37] [] Z Z (fun _=>AB (AZ Z Z AR rfl)) ?_ | refine AI [37] Z Z (fun _=>AB (AZ Z Z AR rfl)) ?_ | refine AG [37] [] Z Z (fun _=>AB (AX Z Z Z AR rfl)) ?_ | refine AI [37] Z Z (fun _=>AB (AX Z Z Z AR rfl)) ?_ | refine AG [37] [] Z Z (fun _=>AB (AY Z Z (rfl) rfl AR rfl)) ?_ | refine AI [37] Z Z (fun _=>AB (AY Z Z (rfl) rfl AR rfl)) ?_
    refine Bo [38] [34] [(39,_)] Z Z (fun _=>I1 (Fq 34 Ba Z Z Z Z Z Z Z Z)) (.inr ⟨39,_,rfl,rfl,rfl,rfl,rfl⟩) Z Z Z Z Z (D2 8 Z Z Z (BY 9 Z Z ?_))
    first | refine U (IC (acc) ([w.R[k]]) Z Z Z Z Z Z Z Z Ba (by simp only [List.length_singleton];omega) Z Z Z Z) ?_ | refine U (Iu (acc) ([w.R[k]]) Z Z Z Z Z Z (fun _=>rfl) Ba (by simp only [List.length_singleton];omega) Z Z Z Z) ?_
    refine AF ⟨rfl,?_⟩;refine BY 10 Z Z ?_
    first | refine J (A2 rfl Ag Z Z Z) ?_ | refine J (A4 rfl Ag Z Z Z) ?_ | refine J (A5 rfl Ag Z Z Z) ?_ | refine J (A3 rfl Ag Z Z Z) ?_ | refine J (A1 rfl Ag Z Z Z) ?_
    refine AF ⟨rfl,?_⟩;refine BY 11 Z Z (U (Bu Z Z Z Z Z Z Z Bw) (AF ⟨rfl,?_⟩));refine Eg (AH (AC Z Z (J (CG Z Z (IntWalk.i64_in _ (by omega)) rfl) (AD Z Z (AF ?_)))));exact ⟨(k+1,acc++ [w.R[k]]),⟨hkl,by show _=Ie x w.R (k+1);rw [SC hkl h31,hacc]⟩,by show w.R.length - (k+1)<w.R.length - k;omega,At hF [20,21,32,33] rfl (rfl) ⟨rfl,rfl,rfl,rfl,rfl,trivial⟩⟩
   ·refine Ai (AH (AC Z Z (J (CG Z Z (IntWalk.i64_in _ (by omega)) rfl) (AD Z Z (AF ?_)))));exact ⟨(k+1,acc),⟨hkl,by show _=Ie x w.R (k+1);rw [Px hkl (Classical.not_not.1 h31),hacc]⟩,by show w.R.length - (k+1)<w.R.length - k;omega,At hF [20,21,32,33] rfl (rfl) ⟨rfl,rfl,rfl,rfl,rfl,trivial⟩⟩
  ·refine C5 (AE (AE ?_));have hke:k=w.R.length:=by have:=h22;omega
   have hac:acc=(FA w x).R:=by rw [hacc,hke];unfold Ie FA;rw [List.take_length]
   refine C3 (ys:=acc.map AU) 32 0 0 33 Z Z Z (Nat.le_of_eq (by rw [List.length_map])) (List.take_of_length_le (by rw [List.length_map];exact Nat.le_refl _)) Z Z Z Z Z Z ?_;rw [hac];refine AH (AD Z Z (AF (BH (DG 32 0 1 35 De Z Z Z Z Z Z Z (Db (α:=Nat×List Lw) (fun q=>⟨86,[(1,.d (AU x)),(2,(.ptr 20 0 0)),(4,(.ptr 21 0 0)),(6,(.ptr 32 0 0)),(8,(.d (natD q.1)))],[FE 20 w,(21,[.blk 28 [.d (.sl (some true) []),.d (.sl (some true) [])]]),(32,[.blk 28 [.d (stsD (FA w x).R),.own 35 0 q.2.length]]),(35,[.rowD 44 3 (q.2.map Mv)])]⟩) (fun q=>q.1≤w.K.length∧q.2=Ht x w.K q.1) (fun q=>w.K.length - q.1) ((0,[])) (⟨Nat.zero_le _,rfl⟩) (At hF [20,21,32,35] Z Z ⟨rfl,rfl,rfl,rfl,rfl,trivial⟩) ?_)))));rintro ⟨k,acc⟩ ⟨hk,hacc⟩;dsimp only at hk hacc⊢;refine AE (AE (AH (AC Z Z ?_)))
   first | refine J (A2 rfl A0 Z Z Z) ?_ | refine J (A4 rfl A0 Z Z Z) ?_ | refine J (A5 rfl A0 Z Z Z) ?_ | refine J (A3 rfl A0 Z Z Z) ?_ | refine J (A1 rfl A0 Z Z Z) ?_
   first | refine J (AZ Z Z A6 rfl) ?_ | refine J (AX Z Z Z A6 rfl) ?_ | refine J (AY Z Z (rfl) rfl A6 rfl) ?_
   refine J (Bs rfl (List.length_map ..) Tryz.underlying26 rfl) ?_
   first | refine J (D3 Z Z Z) ?_ | refine J (D4 Z Z Z) ?_
   refine AF ?_
   first | refine Az rfl (fun h46=>?_) (fun h46=>?_) | refine Aw rfl (fun h46=>?_) (fun h46=>?_)
   ·refine Ai (AE (BH (AE ?_)));have hkl:k<w.K.length:=F1 h46;have hal:acc.length≤w.K.length:=by rw [hacc];exact SD _ _ _
    refine AH ?_
    first | refine J (A2 rfl A0 Z Z Z) ?_ | refine J (A4 rfl A0 Z Z Z) ?_ | refine J (A5 rfl A0 Z Z Z) ?_ | refine J (A3 rfl A0 Z Z Z) ?_ | refine J (A1 rfl A0 Z Z Z) ?_
    first | refine J (AZ Z Z A6 rfl) ?_ | refine J (AX Z Z Z A6 rfl) ?_ | refine J (AY Z Z (rfl) rfl A6 rfl) ?_
    refine AC Z Z ?_
    first | refine J (BE (k) Z Z (rfl) (BJ hkl) Tryz.underlying26 rfl BB rfl) ?_ | refine J (BF (k) Z Z (rfl) (BJ hkl) rfl Tryz.underlying26 BB rfl) ?_
    first | refine J (A2 rfl Be Z Z Z) ?_ | refine J (A4 rfl Be Z Z Z) ?_ | refine J (A5 rfl Be Z Z Z) ?_ | refine J (A3 rfl Be Z Z Z) ?_ | refine J (A1 rfl Be Z Z Z) ?_
    first | refine J (AZ Z Z AR rfl) ?_ | refine J (AX Z Z Z AR rfl) ?_ | refine J (AY Z Z (rfl) rfl AR rfl) ?_
    refine AC Z Z ?_
    first | refine J (I8 Z Z Z) ?_ | refine J (I7 Z Z Z) ?_ | refine J (IF Z Z Z) ?_ | refine J (I2 Tryz.underlying9 Z Z Z) ?_ | refine J (I4 Tryz.underlying9 Z Z Z) ?_ | refine J (st_neqN Tryz.underlying9 Z Z) ?_ | refine J (st_neqPr Tryz.underlying9 Z Z) ?_ | refine J (st_neqMz Tryz.underlying9 Z Z) ?_ | refine J (I3 Tryz.underlying9 Z Z Z) ?_ | refine J (st_neqFN Tryz.underlying9 Z Z) ?_
    refine AC Z Z ?_
    first | refine It 57 rfl (fun h57=>?_) (fun h57=>?_) | refine I5 57 rfl (fun h57=>?_) (fun h57=>?_)
    ·refine Aa Z Z Z ?_
     first | refine J (A2 rfl A0 Z Z Z) ?_ | refine J (A4 rfl A0 Z Z Z) ?_ | refine J (A5 rfl A0 Z Z Z) ?_ | refine J (A3 rfl A0 Z Z Z) ?_ | refine J (A1 rfl A0 Z Z Z) ?_
     refine Aa Z Z Z ?_
     first | refine J (AZ Z Z A6 rfl) ?_ | refine J (AX Z Z Z A6 rfl) ?_ | refine J (AY Z Z (rfl) rfl A6 rfl) ?_
     refine Aa Z Z Z (AC Z Z (Aa Z Z Z ?_))
     first | refine J (BE (k) Z Z (rfl) (BJ hkl) Tryz.underlying26 rfl BB rfl) ?_ | refine J (BF (k) Z Z (rfl) (BJ hkl) rfl Tryz.underlying26 BB rfl) ?_
     refine Aa Z Z Z ?_
     first | refine J (A2 rfl Bf Z Z Z) ?_ | refine J (A4 rfl Bf Z Z Z) ?_ | refine J (A5 rfl Bf Z Z Z) ?_ | refine J (A3 rfl Bf Z Z Z) ?_ | refine J (A1 rfl Bf Z Z Z) ?_
     refine Aa Z Z Z ?_
     first | refine J (AZ Z Z AR rfl) ?_ | refine J (AX Z Z Z AR rfl) ?_ | refine J (AY Z Z (rfl) rfl AR rfl) ?_
     refine Aa Z Z Z (AC Z Z (Aa Z Z Z ?_))
     first | refine J (I8 Z Z Z) ?_ | refine J (I7 Z Z Z) ?_ | refine J (IF Z Z Z) ?_ | refine J (I2 Tryz.underlying9 Z Z Z) ?_ | refine J (I4 Tryz.underlying9 Z Z Z) ?_ | refine J (st_neqN Tryz.underlying9 Z Z) ?_ | refine J (st_neqPr Tryz.underlying9 Z Z) ?_ | refine J (st_neqMz Tryz.underlying9 Z Z) ?_ | refine J (I3 Tryz.underlying9 Z Z Z) ?_ | refine J (st_neqFN Tryz.underlying9 Z Z) ?_
     refine J (GZ Z Z Z Z) (AF ?_)
     first | refine Az rfl (fun h66=>?_) (fun h66=>?_) | refine Aw rfl (fun h66=>?_) (fun h66=>?_)
     ·refine FK [[],[0],[],[2],[],[2,3,4],[2,3,4,5],[2,3,4,5,6],[0,1,2,3,4,5,6,7],[0,1,2,3,4,5,6,7,8],[0,1,2,3,4,5,6,7,8,9]] mixed rfl (D1 ?_)
      first | refine AG [6] [] Z Z (fun _=>AB (A2 rfl A0 Z Z Z)) ?_ | refine AI [6] Z Z (fun _=>AB (A2 rfl A0 Z Z Z)) ?_ | refine AG [6] [] Z Z (fun _=>AB (A4 rfl A0 Z Z Z)) ?_ | refine AI [6] Z Z (fun _=>AB (A4 rfl A0 Z Z Z)) ?_ | refine AG [6] [] Z Z (fun _=>AB (A5 rfl A0 Z Z Z)) ?_ | refine AI [6] Z Z (fun _=>AB (A5 rfl A0 Z Z Z)) ?_ | refine AG [6] [] Z Z (fun _=>AB (A3 rfl A0 Z Z Z)) ?_ | refine AI [6] Z Z (fun _=>AB (A3 rfl A0 Z Z Z)) ?_ | refine AG [6] [] Z Z (fun _=>AB (A1 rfl A0 Z Z Z)) ?_ | refine AI [6] Z Z (fun _=>AB (A1 rfl A0 Z Z Z)) ?_
      first | refine AG [67] [32] Z Z (fun _=>AB (AZ Z Z A6 rfl)) ?_ | refine AG [67] [32] Z Z (fun _=>AB (AX Z Z Z A6 rfl)) ?_ | refine AG [67] [32] Z Z (fun _=>AB (AY Z Z (rfl) rfl A6 rfl)) ?_
      first | refine AG [2] [] Z Z (fun _=>AB (A2 rfl A0 Z Z Z)) ?_ | refine AI [2] Z Z (fun _=>AB (A2 rfl A0 Z Z Z)) ?_ | refine AG [2] [] Z Z (fun _=>AB (A4 rfl A0 Z Z Z)) ?_ | refine AI [2] Z Z (fun _=>AB (A4 rfl A0 Z Z Z)) ?_ | refine AG [2] [] Z Z (fun _=>AB (A5 rfl A0 Z Z Z)) ?_ | refine AI [2] Z Z (fun _=>AB (A5 rfl A0 Z Z Z)) ?_ | refine AG [2] [] Z Z (fun _=>AB (A3 rfl A0 Z Z Z)) ?_ | refine AI [2] Z Z (fun _=>AB (A3 rfl A0 Z Z Z)) ?_ | refine AG [2] [] Z Z (fun _=>AB (A1 rfl A0 Z Z Z)) ?_ | refine AI [2] Z Z (fun _=>AB (A1 rfl A0 Z Z Z)) ?_
      first | refine AG [69] [20] Z Z (fun _=>AB (AZ Z Z A6 rfl)) ?_ | refine AG [69] [20] Z Z (fun _=>AB (AX Z Z Z A6 rfl)) ?_ | refine AG [69] [20] Z Z (fun _=>AB (AY Z Z (rfl) rfl A6 rfl)) ?_
      first | refine AG [8] [] Z Z (fun _=>AB (A8 Z Z)) ?_ | refine AI [8] Z Z (fun _=>AB (A8 Z Z)) ?_
      first | refine AG [70,71] [] Z Z (fun _=>AB (BE (k) Z Z (rfl) (BJ hkl) Tryz.underlying26 rfl BB rfl)) ?_ | refine AI [70,71] Z Z (fun _=>AB (BE (k) Z Z (rfl) (BJ hkl) Tryz.underlying26 rfl BB rfl)) ?_ | refine AG [70,71] [] Z Z (fun _=>AB (BF (k) Z Z (rfl) (BJ hkl) rfl Tryz.underlying26 BB rfl)) ?_ | refine AI [70,71] Z Z (fun _=>AB (BF (k) Z Z (rfl) (BJ hkl) rfl Tryz.underlying26 BB rfl)) ?_
      first | refine AG [72] [] Z Z (fun _=>AB (BN Z Z Au rfl)) ?_ | refine AI [72] Z Z (fun _=>AB (BN Z Z Au rfl)) ?_ | refine AG [72] [] Z Z (fun _=>AB (BO Z Z Au Z Z Z)) ?_ | refine AI [72] Z Z (fun _=>AB (BO Z Z Au Z Z Z)) ?_ | refine AG [72] [] Z Z (fun _=>AB (BP Z Z (rfl) rfl Au rfl)) ?_ | refine AI [72] Z Z (fun _=>AB (BP Z Z (rfl) rfl Au rfl)) ?_
      refine Bo [73] [36] [(74,_)] Z Z (fun _=>I1 (Fq 36 De Z Z Z Z Z Z Z Z)) (.inr ⟨74,_,rfl,rfl,rfl,rfl,rfl⟩) Z Z Z Z Z (D2 8 Z Z Z (BY 9 Z Z ?_))
      first | refine U (IC (acc) ([w.K[k]]) Z Z Z Z Z Z Z Z De (by simp only [List.length_singleton];omega) Z Z Z Z) ?_ | refine U (Iu (acc) ([w.K[k]]) Z Z Z Z Z Z (fun _=>rfl) De (by simp only [List.length_singleton];omega) Z Z Z Z) ?_
      refine AF ⟨rfl,?_⟩;refine BY 10 Z Z ?_
      first | refine J (A2 rfl A0 Z Z Z) ?_ | refine J (A4 rfl A0 Z Z Z) ?_ | refine J (A5 rfl A0 Z Z Z) ?_ | refine J (A3 rfl A0 Z Z Z) ?_ | refine J (A1 rfl A0 Z Z Z) ?_
      refine AF ⟨rfl,?_⟩;refine BY 11 Z Z (U (Bu Z Z Z Z Z Z Z sz26) (AF ⟨rfl,?_⟩));refine Eg (AH (AC Z Z (J (CG Z Z (IntWalk.i64_in _ (by omega)) rfl) (AD Z Z (AF ?_)))));exact ⟨(k+1,acc++ [w.K[k]]),⟨hkl,by show _=Ht x w.K (k+1);rw [SE hkl h57 h66,hacc]⟩,by show w.K.length - (k+1)<w.K.length - k;omega,At hF [20,21,32,35] rfl (rfl) ⟨rfl,rfl,rfl,rfl,rfl,trivial⟩⟩
     ·refine Ai (AH (AC Z Z (J (CG Z Z (IntWalk.i64_in _ (by omega)) rfl) (AD Z Z (AF ?_)))));exact ⟨(k+1,acc),⟨hkl,by show _=Ht x w.K (k+1);rw [Kw hkl (by first | exact .inr (Classical.not_not.1 h66) | exact .inl (Classical.not_not.1 h57)),hacc]⟩,by show w.K.length - (k+1)<w.K.length - k;omega,At hF [20,21,32,35] rfl (rfl) ⟨rfl,rfl,rfl,rfl,rfl,trivial⟩⟩
    ·refine BA Z Z Z Z (BA Z Z Z Z (BA Z Z Z Z (BA Z Z Z Z (BA Z Z Z Z (BA Z Z Z Z (BA Z Z Z Z (BA Z Z Z Z ?_)))))));refine J (Fo Z Z Z Z) (AF (DM Z Z (Ai (AH (AC Z Z (J (CG Z Z (IntWalk.i64_in _ (by omega)) rfl) (AD Z Z (AF ?_))))))));exact ⟨(k+1,acc),⟨hkl,by show _=Ht x w.K (k+1);rw [Kw hkl (by first | exact .inr (Classical.not_not.1 h66) | exact .inl (Classical.not_not.1 h57)),hacc]⟩,by show w.K.length - (k+1)<w.K.length - k;omega,At hF [20,21,32,35] rfl (rfl) ⟨rfl,rfl,rfl,rfl,rfl,trivial⟩⟩
   ·refine C5 (AE (AE ?_));have hke:k=w.K.length:=by have:=h46;omega
    have hac:acc=(FA w x).K:=by rw [hacc,hke];unfold Ht FA;rw [List.take_length]
    refine C3 (ys:=acc.map Mv) 32 0 1 35 Z Z Z (Nat.le_of_eq (by rw [List.length_map])) (List.take_of_length_le (by rw [List.length_map];exact Nat.le_refl _)) Z Z Z Z Z Z ?_;rw [hac];refine AH ?_
    first | refine J (BN Z Z AL rfl) ?_ | refine J (BO Z Z AL Z Z Z) ?_ | refine J (BP Z Z (rfl) rfl AL rfl) ?_
    refine J (Bz (DO (FA w x) (hw.cut x) (Nat.le_trans (List.length_filter_le _ _) (by omega))) Z Z) (AC Z Z ?_)
    first | refine J (Bn Z Z Z) ?_ | refine J (Bm Z Z Z) ?_
    first | refine J (Bn Z Z Z) ?_ | refine J (Bm Z Z Z) ?_
    refine AD Z Z (AD Z Z (AF (AE (AH (AC Z Z ?_)))))
    first | refine J (ET Z Z) ?_ | refine J (EQ Z Z) ?_
    refine AF ?_
    first | refine Az rfl (fun h83=>?_) (fun h83=>?_) | refine Aw rfl (fun h83=>?_) (fun h83=>?_)
    ·refine AE (AH ?_)
     first | refine J (BN Z Z AL rfl) ?_ | refine J (BO Z Z AL Z Z Z) ?_ | refine J (BP Z Z (rfl) rfl AL rfl) ?_
     refine U (Bu Z Z Z Z Z Z Z Bp) (AD Z Z (AF (Aq ?_)));have hc:acyW (FA w x)=false:=by simpa using h83
     exact ⟨_,[],[],An rfl,rfl,rfl,by rw [h0,hc];rfl,rfl⟩
    ·refine Ai (AE (AH ?_))
     first | refine J (BN Z Z AL rfl) ?_ | refine J (BO Z Z AL Z Z Z) ?_ | refine J (BP Z Z (rfl) rfl AL rfl) ?_
     refine U (Bu Z Z Z Z Z Z Z Bp) (AD Z Z (AF (Aq ?_)));have hc:acyW (FA w x)=true:=by simpa using h83
     exact ⟨_,[],[],An rfl,rfl,rfl,by rw [h0,if_pos hc],rfl⟩
abbrev Js.lw (o:Js):Lw:=⟨o.x,o.l.t,o.l.r⟩
noncomputable def opW (w:Ws) (o:Js):Ws×Int:=
 if o.k=0 then addW w o.x else if o.k=1 then lnkW w o.lw else if o.k=2 then unlW w o.lw else if o.k=3 then remW w o.x else (w,0)
theorem RH {w:Ws} {o:Js} (h:o.k=0):opW w o=addW w o.x:=if_pos h
theorem RG {w:Ws} {o:Js} (h:o.k=1):opW w o=lnkW w o.lw:=by unfold opW;rw [if_neg (by omega),if_pos h]
theorem RE {w:Ws} {o:Js} (h:o.k=2):opW w o=unlW w o.lw:=by unfold opW;rw [if_neg (by omega),if_neg (by omega),if_pos h]
theorem RD {w:Ws} {o:Js} (h:o.k=3):opW w o=remW w o.x:=by unfold opW;rw [if_neg (by omega),if_neg (by omega),if_neg (by omega),if_pos h]
theorem RC {w:Ws} {o:Js} (h0:¬o.k=0) (h1:¬o.k=1) (h2:¬o.k=2) (h3:¬o.k=3):opW w o=(w,0):=by unfold opW;rw [if_neg h0,if_neg h1,if_neg h2,if_neg h3]
theorem DH.op {w:Ws} {n:Nat} (h:DH w n) (o:Js):DH (opW w o).1 (n+1):=by
 unfold opW
 split
 ·exact h.add _
 split
 ·exact h.lnk _
 split
 ·exact (h.unl _).mono (Nat.le_succ _)
 split
 ·exact (h.rem _).mono (Nat.le_succ _)
 ·exact h.mono (Nat.le_succ _)
set_option maxHeartbeats 1000000 in
theorem model_p (w:Ws) (hw:B1 w) (hK:w.K.length≤1000000) (o:Js):Ak Tryz.prog 22 [.d (Jw w),.d (opD o)] (.tup [Jw (opW w o).1,B7 (opW w o).2]):=by
 refine CP Tryz.func22 Z Z Tryz.ntmps22 Z Z Z fun F hF=>?_;refine AE (AH (U (Gl 20 Z Z Z Z Z Z Z) (U (Gl 21 Z Z Z Z Z Z Z) (U (HZ 22 EW Z Z Z Z) (AD Z Z (AF (AE (AH ?_))))))))
 first | refine J (A2 rfl Fp Z Z Z) ?_ | refine J (A4 rfl Fp Z Z Z) ?_ | refine J (A5 rfl Fp Z Z Z) ?_ | refine J (A3 rfl Fp Z Z Z) ?_ | refine J (A1 rfl Fp Z Z Z) ?_
 first | refine J (AZ Z Z AR rfl) ?_ | refine J (AX Z Z Z AR rfl) ?_ | refine J (AY Z Z (rfl) rfl AR rfl) ?_
 first | refine J (A2 rfl LA Z Z Z) ?_ | refine J (A4 rfl LA Z Z Z) ?_ | refine J (A5 rfl LA Z Z Z) ?_ | refine J (A3 rfl LA Z Z Z) ?_ | refine J (A1 rfl LA Z Z Z) ?_
 first | refine J (A2 rfl Dh Z Z Z) ?_ | refine J (A4 rfl Dh Z Z Z) ?_ | refine J (A5 rfl Dh Z Z Z) ?_ | refine J (A3 rfl Dh Z Z Z) ?_ | refine J (A1 rfl Dh Z Z Z) ?_
 first | refine J (AZ Z Z BV rfl) ?_ | refine J (AX Z Z Z BV rfl) ?_ | refine J (AY Z Z (rfl) rfl BV rfl) ?_
 first | refine J (A2 rfl LA Z Z Z) ?_ | refine J (A4 rfl LA Z Z Z) ?_ | refine J (A5 rfl LA Z Z Z) ?_ | refine J (A3 rfl LA Z Z Z) ?_ | refine J (A1 rfl LA Z Z Z) ?_
 first | refine J (A2 rfl Bd Z Z Z) ?_ | refine J (A4 rfl Bd Z Z Z) ?_ | refine J (A5 rfl Bd Z Z Z) ?_ | refine J (A3 rfl Bd Z Z Z) ?_ | refine J (A1 rfl Bd Z Z Z) ?_
 first | refine J (AZ Z Z AR rfl) ?_ | refine J (AX Z Z Z AR rfl) ?_ | refine J (AY Z Z (rfl) rfl AR rfl) ?_
 refine J (LE Oz pl44 Z Z Z) (U (HZ 23 Oz Z Z Z Z) (U (Bu Z Z Z Z Z Z Z BB) (AF (AE (AE (AH ?_))))))
 first | refine J (A2 rfl EL Z Z Z) ?_ | refine J (A4 rfl EL Z Z Z) ?_ | refine J (A5 rfl EL Z Z Z) ?_ | refine J (A3 rfl EL Z Z Z) ?_ | refine J (A1 rfl EL Z Z Z) ?_
 first | refine J (AZ Z Z BV rfl) ?_ | refine J (AX Z Z Z BV rfl) ?_ | refine J (AY Z Z (rfl) rfl BV rfl) ?_
 refine AF (BH (AE (AH ?_)))
 first | refine J (FW Z Z Z) ?_ | refine J (FV Z Z Z) ?_ | refine J (FL Z Z Z) ?_ | refine J (FO Tryz.underlying3 Z Z Z) ?_ | refine J (FR Tryz.underlying3 Z Z Z) ?_ | refine J (FQ Tryz.underlying3 Z Z) ?_ | refine J (FU Tryz.underlying3 Z Z) ?_ | refine J (FT Tryz.underlying3 Z Z) ?_ | refine J (FP Tryz.underlying3 Z Z Z) ?_ | refine J (fSq Tryz.underlying3 Z Z) ?_
 refine AD Z Z (AF ?_)
 first | refine Az rfl (fun h18=>?_) (fun h18=>?_) | refine Aw rfl (fun h18=>?_) (fun h18=>?_)
 ·refine AE (AH ?_)
  first | refine J (BN Z Z AL rfl) ?_ | refine J (BO Z Z AL Z Z Z) ?_ | refine J (BP Z Z (rfl) rfl AL rfl) ?_
  first | refine J (A2 rfl Fp Z Z Z) ?_ | refine J (A4 rfl Fp Z Z Z) ?_ | refine J (A5 rfl Fp Z Z Z) ?_ | refine J (A3 rfl Fp Z Z Z) ?_ | refine J (A1 rfl Fp Z Z Z) ?_
  first | refine J (AZ Z Z AR rfl) ?_ | refine J (AX Z Z Z AR rfl) ?_ | refine J (AY Z Z (rfl) rfl AR rfl) ?_
  refine J (Bz (Qr w hw o.x) Z Z) ?_
  first | refine J (Bn Z Z Z) ?_ | refine J (Bm Z Z Z) ?_
  first | refine J (Bn Z Z Z) ?_ | refine J (Bm Z Z Z) ?_
  refine U (Bu Z Z Z Z Z Z Z Bp) (AD Z Z (AF (Aq ?_)));exact ⟨_,[],[],An rfl,rfl,rfl,by rw [RH h18],rfl⟩
 ·refine AE (AH ?_)
  first | refine J (FW Z Z Z) ?_ | refine J (FV Z Z Z) ?_ | refine J (FL Z Z Z) ?_ | refine J (FO Tryz.underlying3 Z Z Z) ?_ | refine J (FR Tryz.underlying3 Z Z Z) ?_ | refine J (FQ Tryz.underlying3 Z Z) ?_ | refine J (FU Tryz.underlying3 Z Z) ?_ | refine J (FT Tryz.underlying3 Z Z) ?_ | refine J (FP Tryz.underlying3 Z Z Z) ?_ | refine J (fSq Tryz.underlying3 Z Z) ?_
  refine AD Z Z (AF ?_)
  first | refine Az rfl (fun h26=>?_) (fun h26=>?_) | refine Aw rfl (fun h26=>?_) (fun h26=>?_)
  ·refine AE (AH ?_)
   first | refine J (BN Z Z AL rfl) ?_ | refine J (BO Z Z AL Z Z Z) ?_ | refine J (BP Z Z (rfl) rfl AL rfl) ?_
   first | refine J (BN Z Z Au rfl) ?_ | refine J (BO Z Z Au Z Z Z) ?_ | refine J (BP Z Z (rfl) rfl Au rfl) ?_
   refine J (Bz (LS w hw hK o.lw) Z Z) ?_
   first | refine J (Bn Z Z Z) ?_ | refine J (Bm Z Z Z) ?_
   first | refine J (Bn Z Z Z) ?_ | refine J (Bm Z Z Z) ?_
   refine U (Bu Z Z Z Z Z Z Z Bp) (AD Z Z (AF (Aq ?_)));exact ⟨_,[],[],An rfl,rfl,rfl,by rw [RG h26],rfl⟩
  ·refine AE (AH ?_)
   first | refine J (FW Z Z Z) ?_ | refine J (FV Z Z Z) ?_ | refine J (FL Z Z Z) ?_ | refine J (FO Tryz.underlying3 Z Z Z) ?_ | refine J (FR Tryz.underlying3 Z Z Z) ?_ | refine J (FQ Tryz.underlying3 Z Z) ?_ | refine J (FU Tryz.underlying3 Z Z) ?_ | refine J (FT Tryz.underlying3 Z Z) ?_ | refine J (FP Tryz.underlying3 Z Z Z) ?_ | refine J (fSq Tryz.underlying3 Z Z) ?_
   refine AD Z Z (AF ?_)
   first | refine Az rfl (fun h33=>?_) (fun h33=>?_) | refine Aw rfl (fun h33=>?_) (fun h33=>?_)
   ·refine AE (AH ?_)
    first | refine J (BN Z Z AL rfl) ?_ | refine J (BO Z Z AL Z Z Z) ?_ | refine J (BP Z Z (rfl) rfl AL rfl) ?_
    first | refine J (BN Z Z Au rfl) ?_ | refine J (BO Z Z Au Z Z Z) ?_ | refine J (BP Z Z (rfl) rfl Au rfl) ?_
    refine J (Bz (MW w hw hK o.lw) Z Z) ?_
    first | refine J (Bn Z Z Z) ?_ | refine J (Bm Z Z Z) ?_
    first | refine J (Bn Z Z Z) ?_ | refine J (Bm Z Z Z) ?_
    refine U (Bu Z Z Z Z Z Z Z Bp) (AD Z Z (AF (Aq ?_)));exact ⟨_,[],[],An rfl,rfl,rfl,by rw [RE h33],rfl⟩
   ·refine AE (AH ?_)
    first | refine J (FW Z Z Z) ?_ | refine J (FV Z Z Z) ?_ | refine J (FL Z Z Z) ?_ | refine J (FO Tryz.underlying3 Z Z Z) ?_ | refine J (FR Tryz.underlying3 Z Z Z) ?_ | refine J (FQ Tryz.underlying3 Z Z) ?_ | refine J (FU Tryz.underlying3 Z Z) ?_ | refine J (FT Tryz.underlying3 Z Z) ?_ | refine J (FP Tryz.underlying3 Z Z Z) ?_ | refine J (fSq Tryz.underlying3 Z Z) ?_
    refine AD Z Z (AF ?_)
    first | refine Az rfl (fun h40=>?_) (fun h40=>?_) | refine Aw rfl (fun h40=>?_) (fun h40=>?_)
    ·refine AE (AH ?_)
     first | refine J (BN Z Z AL rfl) ?_ | refine J (BO Z Z AL Z Z Z) ?_ | refine J (BP Z Z (rfl) rfl AL rfl) ?_
     first | refine J (A2 rfl Fp Z Z Z) ?_ | refine J (A4 rfl Fp Z Z Z) ?_ | refine J (A5 rfl Fp Z Z Z) ?_ | refine J (A3 rfl Fp Z Z Z) ?_ | refine J (A1 rfl Fp Z Z Z) ?_
     first | refine J (AZ Z Z AR rfl) ?_ | refine J (AX Z Z Z AR rfl) ?_ | refine J (AY Z Z (rfl) rfl AR rfl) ?_
     refine J (Bz (MX w hw hK o.x) Z Z) ?_
     first | refine J (Bn Z Z Z) ?_ | refine J (Bm Z Z Z) ?_
     first | refine J (Bn Z Z Z) ?_ | refine J (Bm Z Z Z) ?_
     refine U (Bu Z Z Z Z Z Z Z Bp) (AD Z Z (AF (Aq ?_)));exact ⟨_,[],[],An rfl,rfl,rfl,by rw [RD h40],rfl⟩
    ·refine Ai (AE (AH ?_))
     first | refine J (BN Z Z AL rfl) ?_ | refine J (BO Z Z AL Z Z Z) ?_ | refine J (BP Z Z (rfl) rfl AL rfl) ?_
     refine U (Bu Z Z Z Z Z Z Z Bp) (AD Z Z (AF (Aq ?_)));exact ⟨_,[],[],An rfl,rfl,rfl,by rw [RC h18 h26 h33 h40],rfl⟩
set_option maxHeartbeats 1000000 in
theorem do_c {M:MF} {b:Nat} {w:Ws} (h:Bg M b w) (hw:B1 w) (hK:w.K.length≤999999) (o:Js):AQ Tryz.prog 21 [.d (pD b 0),.d (opD o)] [(40,[.multi M])] fun r H'=>∃M',r= .d (B7 (opW w o).2)∧H'=[(40,[.multi M'])]∧Bg M' b (opW w o).1:=by
 refine CP Tryz.func21 Z Z Tryz.ntmps21 Z Z Z fun F hF=>(AE (AH (U (Gl 20 Z Z Z Z Z Z Z) (AD Z Z (AF (AE (AE (AH ?_))))))))
 first | refine J (A2 rfl EL Z Z Z) ?_ | refine J (A4 rfl EL Z Z Z) ?_ | refine J (A5 rfl EL Z Z Z) ?_ | refine J (A3 rfl EL Z Z Z) ?_ | refine J (A1 rfl EL Z Z Z) ?_
 first | refine J (AZ Z Z BV rfl) ?_ | refine J (AX Z Z Z BV rfl) ?_ | refine J (AY Z Z (rfl) rfl BV rfl) ?_
 refine AF (BH (AE (AH ?_)))
 first | refine J (FW Z Z Z) ?_ | refine J (FV Z Z Z) ?_ | refine J (FL Z Z Z) ?_ | refine J (FO Tryz.underlying3 Z Z Z) ?_ | refine J (FR Tryz.underlying3 Z Z Z) ?_ | refine J (FQ Tryz.underlying3 Z Z) ?_ | refine J (FU Tryz.underlying3 Z Z) ?_ | refine J (FT Tryz.underlying3 Z Z) ?_ | refine J (FP Tryz.underlying3 Z Z Z) ?_ | refine J (fSq Tryz.underlying3 Z Z) ?_
 refine AD Z Z (AF ?_)
 first | refine Az rfl (fun h7=>?_) (fun h7=>?_) | refine Aw rfl (fun h7=>?_) (fun h7=>?_)
 ·refine AE (AH (AC Z Z ?_))
  first | refine J (A2 rfl Fp Z Z Z) ?_ | refine J (A4 rfl Fp Z Z Z) ?_ | refine J (A5 rfl Fp Z Z Z) ?_ | refine J (A3 rfl Fp Z Z Z) ?_ | refine J (A1 rfl Fp Z Z Z) ?_
  first | refine J (AZ Z Z AR rfl) ?_ | refine J (AX Z Z Z AR rfl) ?_ | refine J (AY Z Z (rfl) rfl AR rfl) ?_
  refine H1 (If (Ot h hw o.x) rfl [40] ⟨rfl,trivial⟩ Z Z Z Z (fun r H' ⟨M,e1,e2,_⟩=>by subst e1 e2;exact ⟨rfl,rfl,rfl⟩) rfl) rfl ?_;rintro _ ⟨r,H',⟨M1,e1,e2,h1⟩,rfl⟩;subst e1 e2;refine AD Z Z (AF (Aq ?_));exact ⟨_,[40],_,An rfl,rfl,rfl,M1,by rw [RH h7],rfl,by rw [RH h7];exact h1⟩
 ·refine AE (AH ?_)
  first | refine J (FW Z Z Z) ?_ | refine J (FV Z Z Z) ?_ | refine J (FL Z Z Z) ?_ | refine J (FO Tryz.underlying3 Z Z Z) ?_ | refine J (FR Tryz.underlying3 Z Z Z) ?_ | refine J (FQ Tryz.underlying3 Z Z) ?_ | refine J (FU Tryz.underlying3 Z Z) ?_ | refine J (FT Tryz.underlying3 Z Z) ?_ | refine J (FP Tryz.underlying3 Z Z Z) ?_ | refine J (fSq Tryz.underlying3 Z Z) ?_
  refine AD Z Z (AF ?_)
  first | refine Az rfl (fun h13=>?_) (fun h13=>?_) | refine Aw rfl (fun h13=>?_) (fun h13=>?_)
  ·refine AE (AH (AC Z Z ?_))
   first | refine J (A2 rfl Fp Z Z Z) ?_ | refine J (A4 rfl Fp Z Z Z) ?_ | refine J (A5 rfl Fp Z Z Z) ?_ | refine J (A3 rfl Fp Z Z Z) ?_ | refine J (A1 rfl Fp Z Z Z) ?_
   first | refine J (AZ Z Z AR rfl) ?_ | refine J (AX Z Z Z AR rfl) ?_ | refine J (AY Z Z (rfl) rfl AR rfl) ?_
   first | refine J (A2 rfl LA Z Z Z) ?_ | refine J (A4 rfl LA Z Z Z) ?_ | refine J (A5 rfl LA Z Z Z) ?_ | refine J (A3 rfl LA Z Z Z) ?_ | refine J (A1 rfl LA Z Z Z) ?_
   first | refine J (BN Z Z Am rfl) ?_ | refine J (BO Z Z Am Z Z Z) ?_ | refine J (BP Z Z (rfl) rfl Am rfl) ?_
   refine H1 (If (L6 h hw hK o.lw) rfl [40] ⟨rfl,trivial⟩ Z Z Z Z (fun r H' ⟨M,e1,e2,_⟩=>by subst e1 e2;exact ⟨rfl,rfl,rfl⟩) rfl) rfl ?_;rintro _ ⟨r,H',⟨M1,e1,e2,h1⟩,rfl⟩;subst e1 e2;refine AD Z Z (AF (Aq ?_));exact ⟨_,[40],_,An rfl,rfl,rfl,M1,by rw [RG h13],rfl,by rw [RG h13];exact h1⟩
  ·refine AE (AH ?_)
   first | refine J (FW Z Z Z) ?_ | refine J (FV Z Z Z) ?_ | refine J (FL Z Z Z) ?_ | refine J (FO Tryz.underlying3 Z Z Z) ?_ | refine J (FR Tryz.underlying3 Z Z Z) ?_ | refine J (FQ Tryz.underlying3 Z Z) ?_ | refine J (FU Tryz.underlying3 Z Z) ?_ | refine J (FT Tryz.underlying3 Z Z) ?_ | refine J (FP Tryz.underlying3 Z Z Z) ?_ | refine J (fSq Tryz.underlying3 Z Z) ?_
   refine AD Z Z (AF ?_)
   first | refine Az rfl (fun h21=>?_) (fun h21=>?_) | refine Aw rfl (fun h21=>?_) (fun h21=>?_)
   ·refine AE (AH (AC Z Z ?_))
    first | refine J (A2 rfl Fp Z Z Z) ?_ | refine J (A4 rfl Fp Z Z Z) ?_ | refine J (A5 rfl Fp Z Z Z) ?_ | refine J (A3 rfl Fp Z Z Z) ?_ | refine J (A1 rfl Fp Z Z Z) ?_
    first | refine J (AZ Z Z AR rfl) ?_ | refine J (AX Z Z Z AR rfl) ?_ | refine J (AY Z Z (rfl) rfl AR rfl) ?_
    first | refine J (A2 rfl LA Z Z Z) ?_ | refine J (A4 rfl LA Z Z Z) ?_ | refine J (A5 rfl LA Z Z Z) ?_ | refine J (A3 rfl LA Z Z Z) ?_ | refine J (A1 rfl LA Z Z Z) ?_
    first | refine J (BN Z Z Am rfl) ?_ | refine J (BO Z Z Am Z Z Z) ?_ | refine J (BP Z Z (rfl) rfl Am rfl) ?_
    refine H1 (If (QV h hw (by omega) o.lw) rfl [40] ⟨rfl,trivial⟩ Z Z Z Z (fun r H' ⟨M,e1,e2,_⟩=>by subst e1 e2;exact ⟨rfl,rfl,rfl⟩) rfl) rfl ?_;rintro _ ⟨r,H',⟨M1,e1,e2,h1⟩,rfl⟩;subst e1 e2;refine AD Z Z (AF (Aq ?_));exact ⟨_,[40],_,An rfl,rfl,rfl,M1,by rw [RE h21],rfl,by rw [RE h21];exact h1⟩
   ·refine AE (AH ?_)
    first | refine J (FW Z Z Z) ?_ | refine J (FV Z Z Z) ?_ | refine J (FL Z Z Z) ?_ | refine J (FO Tryz.underlying3 Z Z Z) ?_ | refine J (FR Tryz.underlying3 Z Z Z) ?_ | refine J (FQ Tryz.underlying3 Z Z) ?_ | refine J (FU Tryz.underlying3 Z Z) ?_ | refine J (FT Tryz.underlying3 Z Z) ?_ | refine J (FP Tryz.underlying3 Z Z Z) ?_ | refine J (fSq Tryz.underlying3 Z Z) ?_
    refine AD Z Z (AF ?_)
    first | refine Az rfl (fun h29=>?_) (fun h29=>?_) | refine Aw rfl (fun h29=>?_) (fun h29=>?_)
    ·refine AE (AH (AC Z Z ?_))
     first | refine J (A2 rfl Fp Z Z Z) ?_ | refine J (A4 rfl Fp Z Z Z) ?_ | refine J (A5 rfl Fp Z Z Z) ?_ | refine J (A3 rfl Fp Z Z Z) ?_ | refine J (A1 rfl Fp Z Z Z) ?_
     first | refine J (AZ Z Z AR rfl) ?_ | refine J (AX Z Z Z AR rfl) ?_ | refine J (AY Z Z (rfl) rfl AR rfl) ?_
     refine H1 (If (Qq h hw (by omega) o.x) rfl [40] ⟨rfl,trivial⟩ Z Z Z Z (fun r H' ⟨M,e1,e2,_⟩=>by subst e1 e2;exact ⟨rfl,rfl,rfl⟩) rfl) rfl ?_;rintro _ ⟨r,H',⟨M1,e1,e2,h1⟩,rfl⟩;subst e1 e2;refine AD Z Z (AF (Aq ?_));exact ⟨_,[40],_,An rfl,rfl,rfl,M1,by rw [RD h29],rfl,by rw [RD h29];exact h1⟩
    ·refine Ai (AE (AH (AD Z Z (AF (Aq ?_)))));exact ⟨_,[40],_,An rfl,rfl,rfl,M,by rw [RC h7 h13 h21 h29],rfl,by rw [RC h7 h13 h21 h29];exact h⟩
abbrev Qz (l:List Js):D:= .sl none (l.map opD)
theorem few_p (l:List Js) (hl:l.length≤140737488355328):Ak Tryz.prog 6 [.d (Qz l)] (Qz (l.take 24)):=by
 refine CP Tryz.func6 Z Z Tryz.ntmps6 Z Z Z fun F hF=>?_;refine AE (AH (AD Z Z (AF (AE (AH (AC Z Z (AC Z Z (J (Bs rfl (List.length_map ..) Tryz.underlying22 rfl) ?_))))))))
 obtain ⟨m,hm,hm1,hm2⟩:∃m:Nat,(if (24:Int)<(l.length:Int) then (24:Int) else (l.length:Int))=(m:Int)∧m≤l.length∧l.take m=l.take 24:=⟨min l.length 24,by omega,by omega,by rw [Nat.min_comm,←List.take_take,List.take_length]⟩
 refine J (st_min Z Z (hm) rfl) ?_
 first | refine J (Nf (m) Z Z Z (by rw [List.length_map];exact hm1) Tryz.underlying22 MD (by simp [D.cells,byteD]) (List.map_take.symm) rfl) ?_ | refine J (H8 (m) Z Z Z (by rw [List.length_map];exact hm1) rfl Tryz.underlying22 MD rfl) ?_
 refine AD Z Z (AF (Aq ?_));exact ⟨_,[],[],An rfl,rfl,rfl,by rw [hm2],rfl⟩
noncomputable def opsW (l:List Js):Ws:=l.foldl (fun w o=>(opW w o).1) ⟨[],[]⟩
theorem Pe (l:List Js) (o:Js):opsW (l++ [o])=(opW (opsW l) o).1:=by unfold opsW;rw [List.foldl_append];rfl
theorem Hg {l:List Js} {k:Nat} (hk:k<l.length):opsW (l.take (k+1))=(opW (opsW (l.take k)) l[k]).1:=by rw [List.take_succ_eq_append_getElem hk,Pe]
theorem Mc (l:List Js):∀k,k≤l.length ->DH (opsW (l.take k)) k:=by
 intro k
 induction k with
 | zero=>intro _;exact DH.nil
 | succ k ih=>intro hk;rw [Hg (by omega)];exact (ih (by omega)).op _
theorem Pv {l:List Js} {k:Nat} (h:k<l.length):(l.map opD)[k]? =some (opD l[k]):=by
 rw [List.getElem?_map,List.getElem?_eq_getElem h];rfl
set_option maxHeartbeats 4000000 in
theorem play_c (l:List Js) (hl:l.length≤1000):AQ Tryz.prog 5 [.d (Qz l)] [] fun r H'=>∃b M,r= .d (.tup [pD b 0,Jw (opsW l)])∧H'=[(40,[.multi M])]∧Bg M b (opsW l):=by
 refine CP Tryz.func5 Z Z Tryz.ntmps5 Z Z Z fun F hF=>(AE (AH (AD Z Z (U (HZ 20 EW Z Z Z Z) (AF (AE (AH ?_)))))));refine H1 (If RW rfl [40] ⟨rfl,trivial⟩ Z Z Z Z (fun r H' ⟨b,M,e1,e2,_⟩=>by subst e1 e2;exact ⟨rfl,rfl,rfl⟩) rfl) rfl ?_;rintro _ ⟨r,H',⟨b,M0,e1,e2,h0⟩,rfl⟩;subst e1 e2;refine J (LE EW M9 Z Z Z) (U (HZ 25 EW Z Z Z Z) (AD Z Z (U (Bu Z Z Z Z Z Z Z Bp) (AF ?_))));refine AE (AE (Ou 25 0 0 (stsD []) Z Z (fun _ _ _ h=>h.anyNil) Z Z (Ou 25 0 1 (LY []) Z Z (fun _ _ _ h=>h.anyNil) Z Z (AH (AD Z Z (AF (BH (Db (α:=Nat×MF) (fun q=>⟨32,[(0,.d (Qz l)),(3,(.ptr 20 0 0)),(4,(.d (pD b 0))),(5,(.ptr 25 0 0)),(6,(.d (natD q.1)))],[(20,[.blk 28 [.d (.sl (some true) []),.d (.sl (some true) [])]]),(25,[.blk 28 [.d (stsD (opsW (l.take q.1)).R),.d (LY (opsW (l.take q.1)).K)]]),(40,[.multi q.2])]⟩) (fun q=>q.1≤l.length∧Bg q.2 b (opsW (l.take q.1))) (fun q=>l.length - q.1) ((0,M0)) (⟨Nat.zero_le _,h0⟩) (At hF [20,25,40] Z Z ⟨rfl,rfl,rfl,rfl,rfl,trivial⟩) ?_))))))));rintro ⟨k,M⟩ ⟨hk,hR⟩;dsimp only at hk hR⊢;refine AE (AE (AH (AC Z Z (AC Z Z (J (Bs rfl (List.length_map ..) Tryz.underlying22 rfl) ?_)))))
 first | refine J (D3 Z Z Z) ?_ | refine J (D4 Z Z Z) ?_
 refine AF ?_
 first | refine Az rfl (fun h12=>?_) (fun h12=>?_) | refine Aw rfl (fun h12=>?_) (fun h12=>?_)
 ·refine Ai (AE (BH (AE ?_)));have hkl:k<l.length:=F1 h12;have hInv:=Mc l k hk;have hnK:=hInv.nK;refine AH (AC Z Z (AC Z Z (AC Z Z ?_)))
  first | refine J (BE (k) Z Z (rfl) (Pv hkl) Tryz.underlying22 rfl MD rfl) ?_ | refine J (BF (k) Z Z (rfl) (Pv hkl) rfl Tryz.underlying22 MD rfl) ?_
  first | refine J (BN Z Z LO rfl) ?_ | refine J (BO Z Z LO Z Z Z) ?_ | refine J (BP Z Z (rfl) rfl LO rfl) ?_
  refine H1 (If (do_c hR hInv.ok (by omega) l[k]) rfl [40] ⟨rfl,trivial⟩ Z Z Z Z (fun r H' ⟨M,e1,e2,_⟩=>by subst e1 e2;exact ⟨rfl,rfl,rfl⟩) rfl) rfl ?_;rintro _ ⟨r,H',⟨M1,e1,e2,h1⟩,rfl⟩;subst e1 e2;refine AF (FK [[],[],[],[1,2],[1,2,3],[0,1,2,3,4],[0,1,2,3,4,5],[0,1,2,3,4,5,6],[0,1,2,3,4,5,6],[0,1,2,3,4,5,6,7]] mixed rfl (D1 ?_))
  first | refine AG [5] [25] Z Z (fun _=>AB (BN Z Z AL rfl)) ?_ | refine AG [5] [25] Z Z (fun _=>AB (BO Z Z AL Z Z Z)) ?_ | refine AG [5] [25] Z Z (fun _=>AB (BP Z Z (rfl) rfl AL rfl)) ?_
  first | refine AG [0] [] Z Z (fun _=>AB (A8 Z Z)) ?_ | refine AI [0] Z Z (fun _=>AB (A8 Z Z)) ?_
  first | refine AG [6] [] Z Z (fun _=>AB (A8 Z Z)) ?_ | refine AI [6] Z Z (fun _=>AB (A8 Z Z)) ?_
  first | refine AG [23,24] [] Z Z (fun _=>AB (BE (k) Z Z (rfl) (Pv hkl) Tryz.underlying22 rfl MD rfl)) ?_ | refine AI [23,24] Z Z (fun _=>AB (BE (k) Z Z (rfl) (Pv hkl) Tryz.underlying22 rfl MD rfl)) ?_ | refine AG [23,24] [] Z Z (fun _=>AB (BF (k) Z Z (rfl) (Pv hkl) rfl Tryz.underlying22 MD rfl)) ?_ | refine AI [23,24] Z Z (fun _=>AB (BF (k) Z Z (rfl) (Pv hkl) rfl Tryz.underlying22 MD rfl)) ?_
  first | refine AG [25] [] Z Z (fun _=>AB (BN Z Z LO rfl)) ?_ | refine AI [25] Z Z (fun _=>AB (BN Z Z LO rfl)) ?_ | refine AG [25] [] Z Z (fun _=>AB (BO Z Z LO Z Z Z)) ?_ | refine AI [25] Z Z (fun _=>AB (BO Z Z LO Z Z Z)) ?_ | refine AG [25] [] Z Z (fun _=>AB (BP Z Z (rfl) rfl LO rfl)) ?_ | refine AI [25] Z Z (fun _=>AB (BP Z Z (rfl) rfl LO rfl)) ?_
  refine D2 5 Z Z Z (BY 6 Z Z (J (Bz (model_p (opsW (l.take k)) hInv.ok (by omega) l[k]) Z Z) (AF ⟨rfl,?_⟩)));refine BY 7 Z Z (AC Z Z (AF ⟨rfl,?_⟩));refine D1 ?_
  first | refine AG [21] [] Z Z (fun _=>AB (Bn Z Z Z)) ?_ | refine AI [21] Z Z (fun _=>AB (Bn Z Z Z)) ?_ | refine AG [21] [] Z Z (fun _=>AB (Bm Z Z Z)) ?_ | refine AI [21] Z Z (fun _=>AB (Bm Z Z Z)) ?_
  first | refine AG [21] [] Z Z (fun _=>AB (Bn Z Z Z)) ?_ | refine AI [21] Z Z (fun _=>AB (Bn Z Z Z)) ?_ | refine AG [21] [] Z Z (fun _=>AB (Bm Z Z Z)) ?_ | refine AI [21] Z Z (fun _=>AB (Bm Z Z Z)) ?_
  refine Bo [5,28] [25] [] Z Z (fun _=>I1 (Bu Z Z Z Z Z Z Z Bp)) (.inl ⟨rfl,rfl⟩) Z Z Z Z Z (D2 10 Z Z Z (Eg (AH (AC Z Z (J (CG Z Z (IntWalk.i64_in _ (by omega)) rfl) (AD Z Z (AF ?_)))))));exact ⟨(k+1,M1),⟨hkl,by show Bg M1 b (opsW (l.take (k+1)));rw [Hg hkl];exact h1⟩,by show l.length - (k+1)<l.length - k;omega,At hF [20,25,40] rfl (by simp only [Hg hkl];rfl) ⟨rfl,rfl,rfl,rfl,rfl,trivial⟩⟩
 ·refine C5 (AE ?_);have hke:k=l.length:=by have:=h12;omega
  rw [hke,List.take_length] at hR;rw [hke,List.take_length];refine FK [[],[],[0],[0,1,2]] mixed rfl (D1 ?_)
  first | refine AG [4] [] Z Z (fun _=>AB (A8 Z Z)) ?_ | refine AI [4] Z Z (fun _=>AB (A8 Z Z)) ?_
  first | refine AG [5] [25] Z Z (fun _=>AB (BN Z Z AL rfl)) ?_ | refine AG [5] [25] Z Z (fun _=>AB (BO Z Z AL Z Z Z)) ?_ | refine AG [5] [25] Z Z (fun _=>AB (BP Z Z (rfl) rfl AL rfl)) ?_
  first | refine AG [30] [] Z Z (fun _=>AB (Zct Z Z)) ?_ | refine AI [30] Z Z (fun _=>AB (Zct Z Z)) ?_
  refine D2 3 Z Z Z (BY 4 Z Z (U (Bu Z Z Z Z Z Z Z Bp) (AF ⟨rfl,?_⟩)));refine Eg (Aq ?_);exact ⟨_,[40],_,An rfl,rfl,rfl,b,M,rfl,rfl,hR⟩
theorem E6 {a b:Int} (h:a=b):AV.d (.raw (.int .i64 a))= .d (.raw (.int .i64 b)):=by rw [h]
theorem wrapS (n:Nat) (h:n≤9223372036854775807):IntKind.i64.wrap (n:Int)=(n:Int):=IntWalk.i64_in _ (by omega)
theorem nan_p (n:Int):Ak Tryz.prog 44 [.d (B7 n)] (.raw (.bool false)):=by
 refine CP Tryz.func44 Z Z Tryz.ntmps44 Z Z Z fun F hF=>(AE (AH (AD Z Z (AF (AE (AH (AC Z Z (AC Z Z ?_))))))))
 first | refine J (I8 Z Z Z) ?_ | refine J (I7 Z Z Z) ?_ | refine J (IF Z Z Z) ?_ | refine J (I2 Tryz.underlying3 Z Z Z) ?_ | refine J (I4 Tryz.underlying3 Z Z Z) ?_ | refine J (st_neqN Tryz.underlying3 Z Z) ?_ | refine J (st_neqPr Tryz.underlying3 Z Z) ?_ | refine J (st_neqMz Tryz.underlying3 Z Z) ?_ | refine J (I3 Tryz.underlying3 Z Z Z) ?_ | refine J (st_neqFN Tryz.underlying3 Z Z) ?_
 refine AD Z Z (AF (Aq ?_));exact ⟨_,[],[],An rfl,rfl,rfl,by simp,rfl⟩
theorem RX (l:List UInt8):Ak Tryz.prog 45 [.d (AU l)] (.raw (.bool false)):=by
 refine CP Tryz.func45 Z Z Tryz.ntmps45 Z Z Z fun F hF=>(AE (AH (AD Z Z (AF (AE (AH (AC Z Z (AC Z Z ?_))))))))
 first | refine J (I8 Z Z Z) ?_ | refine J (I7 Z Z Z) ?_ | refine J (IF Z Z Z) ?_ | refine J (I2 Tryz.underlying9 Z Z Z) ?_ | refine J (I4 Tryz.underlying9 Z Z Z) ?_ | refine J (st_neqN Tryz.underlying9 Z Z) ?_ | refine J (st_neqPr Tryz.underlying9 Z Z) ?_ | refine J (st_neqMz Tryz.underlying9 Z Z) ?_ | refine J (I3 Tryz.underlying9 Z Z Z) ?_ | refine J (st_neqFN Tryz.underlying9 Z Z) ?_
 refine AD Z Z (AF (Aq ?_));exact ⟨_,[],[],An rfl,rfl,rfl,by simp,rfl⟩
def EP (a b:Int):Int:=if a<b then -1 else if b<a then 1 else 0
def KE (a b:List UInt8):Bool:=Op.bytesLess a b
def EO (a b:List UInt8):Int:=if KE a b=true then -1 else if KE b a=true then 1 else 0
theorem Dz (a b:List UInt8):Op.bytesLess (⟨a.toArray⟩:ByteArray).toList (⟨b.toArray⟩:ByteArray).toList=KE a b:=by rw [Lib.toList_data,Lib.toList_data];rfl
theorem SJ (a b:Int):Ak Tryz.prog 27 [.d (B7 a),.d (B7 b)] (B7 (EP a b)):=by
 refine CP Tryz.func27 Z Z Tryz.ntmps27 Z Z Z fun F hF=>(AE (AH (AD Z Z (AF (AE (AH (AC Z Z (J (Bz (nan_p a) Z Z) ?_))))))));refine AD Z Z (AF (AE (AH (AC Z Z (J (Bz (nan_p b) Z Z) (AD Z Z (AF (AE ?_))))))));refine AE (AH (AC Z Z (AF (DM rfl (rfl) (Ai (AE (AE (AH ?_))))))));refine AC Z Z (AF (DM rfl (rfl) (Ai (AE (AE (AH (AC Z Z (AC Z Z ?_))))))))
 first | refine J (D3 Z Z Z) ?_ | refine J (D4 Z Z Z) ?_
 refine AF ?_
 first | refine Az rfl (fun h16=>?_) (fun h16=>?_) | refine Aw rfl (fun h16=>?_) (fun h16=>?_)
 ·refine AE (AH (AD Z Z (AF (Aq ?_))));exact ⟨_,[],[],An rfl,rfl,rfl,by first | exact E6 (by unfold EP;rw [if_pos (by assumption)]) | exact E6 (by unfold EP;rw [if_neg (by assumption),if_pos (by omega)]) | exact E6 (by unfold EP;rw [if_neg (by assumption),if_neg (by omega)]),rfl⟩
 ·refine Ai (AE (AE (AH (AC Z Z (AC Z Z ?_)))))
  first | refine J (H9 Z Z Z) ?_ | refine J (GA Z Z Z) ?_
  refine AF ?_
  first | refine Az rfl (fun h19=>?_) (fun h19=>?_) | refine Aw rfl (fun h19=>?_) (fun h19=>?_)
  ·refine AE (AH (AD Z Z (AF (Aq ?_))));exact ⟨_,[],[],An rfl,rfl,rfl,by first | exact E6 (by unfold EP;rw [if_pos (by assumption)]) | exact E6 (by unfold EP;rw [if_neg (by assumption),if_pos (by omega)]) | exact E6 (by unfold EP;rw [if_neg (by assumption),if_neg (by omega)]),rfl⟩
  ·refine Ai (AE (AH (AD Z Z (AF (Aq ?_)))));exact ⟨_,[],[],An rfl,rfl,rfl,by first | exact E6 (by unfold EP;rw [if_pos (by assumption)]) | exact E6 (by unfold EP;rw [if_neg (by assumption),if_pos (by omega)]) | exact E6 (by unfold EP;rw [if_neg (by assumption),if_neg (by omega)]),rfl⟩
theorem cmpS_p (a b:List UInt8):Ak Tryz.prog 28 [.d (AU a),.d (AU b)] (B7 (EO a b)):=by
 refine CP Tryz.func28 Z Z Tryz.ntmps28 Z Z Z fun F hF=>(AE (AH (AD Z Z (AF (AE (AH (AC Z Z (J (Bz (RX a) Z Z) ?_))))))));refine AD Z Z (AF (AE (AH (AC Z Z (J (Bz (RX b) Z Z) (AD Z Z (AF (AE ?_))))))));refine AE (AH (AC Z Z (AF (DM rfl (rfl) (Ai (AE (AE (AH ?_))))))));refine AC Z Z (AF (DM rfl (rfl) (Ai (AE (AE (AH (AC Z Z (AC Z Z ?_))))))))
 first | refine J (D3 Z Z Z) ?_ | refine J (D4 Z Z Z) ?_
 refine AF ?_
 first | refine Az rfl (fun h16=>?_) (fun h16=>?_) | refine Aw rfl (fun h16=>?_) (fun h16=>?_)
 ·rw [Dz] at h16;refine AE (AH (AD Z Z (AF (Aq ?_))));exact ⟨_,[],[],An rfl,rfl,rfl,by first | exact E6 (by unfold EO;rw [if_pos h16]) | exact E6 (by unfold EO;rw [if_neg (by rw [h16];decide),if_pos h19]) | exact E6 (by unfold EO;rw [if_neg (by rw [h16];decide),if_neg (by rw [h19];decide)]),rfl⟩
 ·rw [Dz] at h16;refine Ai (AE (AE (AH (AC Z Z (AC Z Z ?_)))))
  first | refine J (H9 Z Z Z) ?_ | refine J (GA Z Z Z) ?_
  refine AF ?_
  first | refine Az rfl (fun h19=>?_) (fun h19=>?_) | refine Aw rfl (fun h19=>?_) (fun h19=>?_)
  ·rw [Dz] at h19;refine AE (AH (AD Z Z (AF (Aq ?_))));exact ⟨_,[],[],An rfl,rfl,rfl,by first | exact E6 (by unfold EO;rw [if_pos h16]) | exact E6 (by unfold EO;rw [if_neg (by rw [h16];decide),if_pos h19]) | exact E6 (by unfold EO;rw [if_neg (by rw [h16];decide),if_neg (by rw [h19];decide)]),rfl⟩
  ·rw [Dz] at h19;refine Ai (AE (AH (AD Z Z (AF (Aq ?_)))));exact ⟨_,[],[],An rfl,rfl,rfl,by first | exact E6 (by unfold EO;rw [if_pos h16]) | exact E6 (by unfold EO;rw [if_neg (by rw [h16];decide),if_pos h19]) | exact E6 (by unfold EO;rw [if_neg (by rw [h16];decide),if_neg (by rw [h19];decide)]),rfl⟩
def EK:List Int ->Int
 | []=>0
 | e::r=>if e=0 then EK r else e
theorem Pw {α:Type} {l:List α} {f:α ->Int} {k:Nat} (hk:k<l.length):EK ((l.drop k).map f)=if f l[k]=0 then EK ((l.drop (k+1)).map f) else f l[k]:=by
 rw [List.drop_eq_getElem_cons hk];rfl
theorem Ru {α:Type} {l:List α} {f:α ->Int} {k:Nat} (hk:¬k<l.length):EK ((l.drop k).map f)=0:=by
 rw [List.drop_of_length_le (by omega)];rfl
theorem OJ {α:Type} {l:List α} {f:α ->Int} {k:Nat} {E:Int} (hk:k<l.length) (h:E=EK ((l.drop k).map f)):(f l[k]=0 ->E=EK ((l.drop (k+1)).map f))∧∀e,f l[k]=e ->e≠0 ->e=E:=by
 rw [Pw hk] at h;exact ⟨fun h0=>by rw [h,if_pos h0],fun e h1 h2=>by rw [h,if_neg (by rw [h1];exact h2),h1]⟩
theorem or_p (l:List Int) (hn:l.length≤140737488355328):Ak Tryz.prog 26 [.d (.sl none (l.map B7))] (B7 (EK l)):=by
 refine CP Tryz.func26 Z Z Tryz.ntmps26 Z Z Z fun F hF=>(AE (AH (AD Z Z ?_)));refine AF (AE (AH (AD Z Z (AF (AE (AE (AH (AC Z Z ?_))))))))
 first | refine J (IB rfl Tryz.underlying52 rfl) ?_ | refine J (Bs Z Z Tryz.underlying52 rfl) ?_ | refine J (IE rfl Tryz.underlying52 rfl) ?_ | refine J (IG rfl Tryz.underlying52 rfl) ?_ | refine J (ID rfl Tryz.underlying52 rfl) ?_ | refine J (H4 rfl Tryz.underlying52 rfl) ?_
 refine AC Z Z (AF (BH (Ls (α:=Nat) (fun k=>⟨18,[(3,(.d (B7 0))),(6,(.d (.sl none (l.map B7)))),(7,(.d (B7 (l.length:Int)))),(8,(.d (B7 (k:Int))))],[]⟩) (fun k=>k≤l.length∧EK (l.map id)=EK ((l.drop k).map id)) (fun k=>l.length - k) (0) (⟨Nat.zero_le _,rfl⟩) (Ec ⟨rfl,rfl,rfl,rfl,trivial⟩) ?_)));rintro k ⟨hk0,hk⟩;refine AE (AH ?_)
 first | refine J (D3 Z Z Z) ?_ | refine J (D4 Z Z Z) ?_
 refine AF (AE ?_)
 first | refine Az rfl (fun h9=>?_) (fun h9=>?_) | refine Aw rfl (fun h9=>?_) (fun h9=>?_)
 ·have hk1:k<l.length:=F1 h9;refine Ai (AE (BH (AE (AH ?_))));have hE:=OJ hk1 hk
  first | refine J (BE (k) Z Z (rfl) (NK hk1) Tryz.underlying52 rfl Dn rfl) ?_ | refine J (BF (k) Z Z (rfl) (NK hk1) rfl Tryz.underlying52 Dn rfl) ?_
  first | refine J (AZ Z Z BV rfl) ?_ | refine J (AX Z Z Z BV rfl) ?_ | refine J (AY Z Z (rfl) rfl BV rfl) ?_
  refine AD Z Z (AF (AE (AH (AC Z Z (AC Z Z ?_)))))
  first | refine J (I8 Z Z Z) ?_ | refine J (I7 Z Z Z) ?_ | refine J (IF Z Z Z) ?_ | refine J (I2 Tryz.underlying3 Z Z Z) ?_ | refine J (I4 Tryz.underlying3 Z Z Z) ?_ | refine J (st_neqN Tryz.underlying3 Z Z) ?_ | refine J (st_neqPr Tryz.underlying3 Z Z) ?_ | refine J (st_neqMz Tryz.underlying3 Z Z) ?_ | refine J (I3 Tryz.underlying3 Z Z Z) ?_ | refine J (st_neqFN Tryz.underlying3 Z Z) ?_
  refine AF ?_
  first | refine Az rfl (fun h14=>?_) (fun h14=>?_) | refine Aw rfl (fun h14=>?_) (fun h14=>?_)
  ·refine AE (AH (AC Z Z (AD Z Z (AF (Aq ?_)))));exact ⟨_,[],[],An rfl,rfl,rfl,E6 ((hE.2 l[k] rfl (by simpa using h14)).trans (by rw [List.map_id])),rfl⟩
  ·refine Ai (AH (J (CG Z Z (wrapS (k+1) (by omega)) rfl) (AC Z Z (AF ?_))));exact ⟨k+1,⟨by show k+1≤_;omega,hE.1 (by simpa using h14)⟩,by show l.length - (k+1)<l.length - k;omega,⟨rfl,rfl,fun _ _=>Has.get (l:=[(3,_),(6,_),(7,_),(8,_)]) ⟨rfl,rfl,rfl,rfl,trivial⟩⟩⟩
 ·refine C5 (AE (AH (AC Z Z (AD Z Z (AF (Aq ?_))))));exact ⟨_,[],[],An rfl,rfl,rfl,E6 (by rw [List.map_id] at hk;rw [hk,Ru (by have h:=h9;omega)]),rfl⟩
theorem Hl:∀a b c:List UInt8,KE a b=true ->KE b c=true ->KE a c=true
 | [],[],_,h,_=>by simp [KE,Op.bytesLess] at h
 | [],_::_,[],_,h=>by simp [KE,Op.bytesLess] at h
 | [],_::_,_::_,_,_=>by simp [KE,Op.bytesLess]
 | _::_,[],_,h,_=>by simp [KE,Op.bytesLess] at h
 | _::_,_::_,[],_,h=>by simp [KE,Op.bytesLess] at h
 | a::x,b::y,c::z,h1,h2=>by
  simp only [KE,Op.bytesLess,Bool.or_eq_true,decide_eq_true_eq,Bool.and_eq_true,beq_iff_eq] at h1 h2⊢;rcases h1 with h1 | ⟨rfl,h1⟩<;>rcases h2 with h2 | ⟨rfl,h2⟩
  ·exact .inl (UInt8.lt_trans h1 h2)
  ·exact .inl h1
  ·exact .inl h2
  ·exact .inr ⟨rfl,Hl x y z h1 h2⟩
theorem Gb (a:List UInt8):KE a a=false:=by
 have:=GH a a;simp only [KE]
 cases h:Op.bytesLess a a with
 | false=>rfl
 | true=>rw [h] at this;simp at this
structure PC {γ:Type} (c:γ ->γ ->Int):Prop where
 anti:∀x y,c y x= - c x y
 trans:∀x y z,c x y<0 ->c y z<0 ->c x z<0
 eqv:∀x y z,c x y=0 ->c x z=c y z
theorem cmpI_pc:PC EP:=⟨fun x y=>by unfold EP;split<;>split<;>first | omega | rfl,fun x y z=>by unfold EP;split<;>split<;>(try split)<;>(try split)<;>(try split)<;>(try split)<;>first | omega | simp,fun x y z h=>by
 have:x=y:=by
  unfold EP at h;split at h; · cases h
  split at h; · cases h
  omega
 rw [this]⟩
theorem Hu {a b:List UInt8}:EO a b=0↔a=b:=by
 unfold EO
 constructor
 ·intro h
  split at h; · cases h
  split at h; · cases h
  rename_i h1 h2
  have:=GH a b
  change KE b a=(!KE a b && !a==b) at this
  simp only [Bool.not_eq_true] at h1 h2;rw [h1,h2] at this
  simpa using this
 ·rintro rfl;rw [if_neg (by rw [Gb];simp),if_neg (by rw [Gb];simp)]
theorem HX {a b:List UInt8}:EO a b<0↔KE a b=true:=by
 unfold EO;split
 ·rename_i h;simp [h]
 ·rename_i h;split<;>simp [h]
theorem cmpS_pc:PC EO:=⟨fun x y=>by
 unfold EO
 by_cases h1:KE x y=true
 ·have h2:¬KE y x=true:=fun h2=>by have:=Hl x y x h1 h2;rw [Gb] at this;cases this
  rw [if_neg h2,if_pos h1,if_pos h1];rfl
 ·by_cases h2:KE y x=true
  ·rw [if_pos h2,if_neg h1,if_pos h2]
  ·rw [if_neg h2,if_neg h1,if_neg h1,if_neg h2];rfl,fun x y z h1 h2=>HX.2 (Hl x y z (HX.1 h1) (HX.1 h2)),fun x y z h=>by rw [Hu.1 h]⟩
theorem PC.comap {γ δ:Type} {c:γ ->γ ->Int} (h:PC c) (f:δ ->γ):PC fun x y=>c (f x) (f y):=⟨fun _ _=>h.anti _ _,fun _ _ _=>h.trans _ _ _,fun _ _ _=>h.eqv _ _ _⟩
theorem PC.lex {γ:Type} {c:γ ->γ ->Int} {r:γ ->γ ->List Int} (h:PC c) (h':PC fun x y=>EK (r x y)):PC fun x y=>EK (c x y::r x y):=by
 have sw:∀x y,c x y=0↔c y x=0:=fun x y=>by have:=h.anti x y;omega
 refine ⟨fun x y=>?_,fun x y z=>?_,fun x y z=>?_⟩
 ·simp only [EK]
  by_cases e:c x y=0
  ·rw [if_pos e,if_pos ((sw x y).1 e)];exact h'.anti x y
  ·rw [if_neg e,if_neg (fun e'=>e ((sw x y).2 e'))];exact h.anti x y
 ·simp only [EK];intro h1 h2
  by_cases e1:c x y=0<;>by_cases e2:c y z=0
  ·have e3:c x z=0:=by rw [h.eqv x y z e1];exact e2
   rw [if_pos e1] at h1;rw [if_pos e2] at h2;rw [if_pos e3];exact h'.trans x y z h1 h2
  ·rw [if_neg e2] at h2;have e3:c x z=c y z:=h.eqv x y z e1;rw [if_neg (by rw [e3];exact e2),e3];exact h2
  ·rw [if_neg e1] at h1;have e3:c z x=c y x:=(h.eqv y z x e2).symm;have e4:c x z=c x y:=by rw [h.anti z x,h.anti y x,e3]
   rw [if_neg (by rw [e4];exact e1),e4];exact h1
  ·rw [if_neg e1] at h1;rw [if_neg e2] at h2;have:=h.trans x y z h1 h2;rw [if_neg (by omega)];exact this
 ·simp only [EK];intro h1
  have e1:c x y=0:=by
   by_cases e:c x y=0
   ·exact e
   ·rw [if_neg e] at h1;exact h1
  rw [if_pos e1] at h1;rw [h.eqv x y z e1];rw [h'.eqv x y z h1]
theorem PC.zero {γ:Type}:PC fun _ _:γ=>(0:Int):=⟨fun _ _=>rfl,fun _ _ _ h=>by omega,fun _ _ _ _=>rfl⟩
theorem PC.last {γ:Type}:PC fun x y:γ=>EK ((fun _ _:γ=>([]:List Int)) x y):=PC.zero
theorem PC.refl {γ:Type} {c:γ ->γ ->Int} (h:PC c) (x:γ):c x x=0:=by have:=h.anti x x;omega
theorem PC.swo {γ:Type} {c:γ ->γ ->Int} (h:PC c):Go.Sort.SWO (ltOf c):=by
 refine ⟨fun x=>?_,fun x y z h1 h2=>?_,fun x y z h1 h2=>?_⟩
 ·simp [ltOf,h.refl]
 ·simp only [ltOf,decide_eq_true_eq] at*;exact h.trans x y z h1 h2
 ·simp only [ltOf,decide_eq_false_iff_not] at*;have a1:=h.anti x y;have a2:=h.anti y z;have a3:=h.anti x z
  by_cases e:c x y=0
  ·rw [h.eqv x y z e];exact h2
  ·by_cases e2:c y z=0
   ·have:=h.eqv y z x e2;rw [h.anti x y,h.anti x z] at this;omega
   ·have:=h.trans z y x (by omega) (by omega);omega
theorem Hv {a b:Int}:EP a b=0↔a=b:=by
 unfold EP;split
 ·constructor<;>intro h<;>omega
 ·split<;>constructor<;>intro h<;>omega
end Go.Proofs.YtlmedakidpaeeaaGreat
