/- Layer 27: the reference's Add, AddLink, Unlink, Remove, Same. -/
import Derived.Test.YtlmedakidpaeeaaMg21
namespace Go.Proofs.Ytlmedakidpaeeaa
open Go.RowKit
set_option maxRecDepth 100000
theorem Pq (w:Ws) (hw:BV w) (x:St):B3 Try.prog 34 [.d (Jh w),.d (AZ x)] (.tup [Jh (addW w x).1,Bv (addW w x).2]):=by
 have hfew:=hw.few;refine DA Try.func34 Z Z Try.ntmps34 Z Z Z fun F hF=>(AG ?_);refine AI (U (IG 20 Z Z Z Z Z Z Z) (U (HG 21 D6 Z Z Z Z) (AE Z Z (AF (AG (AG (AI (AC Z Z ?_))))))))
 first | refine J (J0 rfl Try.underlying9 rfl) ?_ | refine J (Br Z Z Try.underlying9 rfl) ?_ | refine J (JW rfl Try.underlying9 rfl) ?_ | refine J (JY rfl Try.underlying9 rfl) ?_ | refine J (JV rfl Try.underlying9 rfl) ?_ | refine J (JP rfl Try.underlying9 rfl) ?_
 first | refine J (Ed Z Z Z) ?_ | refine J (Ef Z Z Z) ?_
 refine AC Z Z ?_
 first | refine JQ 9 rfl (fun h9=>?_) (fun h9=>?_) | refine ID 9 rfl (fun h9=>?_) (fun h9=>?_)
 ·refine Ay Z Z Z Z (Ay Z Z Z Z (Ay Z Z Z Z (J (G1 Z Z Z Z) (AF (IE Z Z (AG (AI ?_)))))))
  first | refine J (BN Z Z AK rfl) ?_ | refine J (BO Z Z AK Z Z Z) ?_ | refine J (BP Z Z (rfl) rfl AK rfl) ?_
  refine U (Bm Z Z Z Z Z Z Z Bd) (AE Z Z (AF (Au ?_)));exact ⟨_,[],[],Aq rfl,rfl,rfl,by rw [H6 (by omega)],rfl⟩
 ·refine A8 Z Z Z (AC Z Z (A8 Z Z Z ?_))
  first | refine J (J0 rfl Try.underlying9 rfl) ?_ | refine J (Br Z Z Try.underlying9 rfl) ?_ | refine J (JW rfl Try.underlying9 rfl) ?_ | refine J (JY rfl Try.underlying9 rfl) ?_ | refine J (JV rfl Try.underlying9 rfl) ?_ | refine J (JP rfl Try.underlying9 rfl) ?_
  refine A8 Z Z Z ?_
  first | refine J (Mv Z Z Z) ?_ | refine J (Kh Z Z Z) ?_
  refine J (Ey Z Z Z Z) (AF ?_)
  first | refine BA rfl (fun h13=>?_) (fun h13=>?_) | refine Az rfl (fun h13=>?_) (fun h13=>?_)
  ·refine AG (AI ?_)
   first | refine J (BN Z Z AK rfl) ?_ | refine J (BO Z Z AK Z Z Z) ?_ | refine J (BP Z Z (rfl) rfl AK rfl) ?_
   refine U (Bm Z Z Z Z Z Z Z Bd) (AE Z Z (AF (Au ?_)));exact ⟨_,[],[],Aq rfl,rfl,rfl,by rw [H6 (by omega)],rfl⟩
  ·refine Ai (AG (AG (AI ?_)))
   first | refine J (A1 rfl A7 Z Z Z) ?_ | refine J (A3 rfl A7 Z Z Z) ?_ | refine J (A4 rfl A7 Z Z Z) ?_ | refine J (A2 rfl A7 Z Z Z) ?_ | refine J (A0 rfl A7 Z Z Z) ?_
   first | refine J (AX Z Z AL rfl) ?_ | refine J (AU Z Z Z AL rfl) ?_ | refine J (AW Z Z (rfl) rfl AL rfl) ?_
   refine AC Z Z (J (DE (Bo w.R x (by omega)) Z Z) (AF ?_))
   first | refine BA rfl (fun h18=>?_) (fun h18=>?_) | refine Az rfl (fun h18=>?_) (fun h18=>?_)
   ·refine AG (AI ?_)
    first | refine J (BN Z Z AK rfl) ?_ | refine J (BO Z Z AK Z Z Z) ?_ | refine J (BP Z Z (rfl) rfl AK rfl) ?_
    refine U (Bm Z Z Z Z Z Z Z Bd) (AE Z Z (AF (Au ?_)));exact ⟨_,[],[],Aq rfl,rfl,rfl,by rw [N9 (by omega) h18],rfl⟩
   ·refine Ai (AG (AG (AI ?_)))
    first | refine J (A1 rfl A7 Z Z Z) ?_ | refine J (A3 rfl A7 Z Z Z) ?_ | refine J (A4 rfl A7 Z Z Z) ?_ | refine J (A2 rfl A7 Z Z Z) ?_ | refine J (A0 rfl A7 Z Z Z) ?_
    first | refine J (AX Z Z AL rfl) ?_ | refine J (AU Z Z Z AL rfl) ?_ | refine J (AW Z Z (rfl) rfl AL rfl) ?_
    refine J (Br rfl (List.length_map ..) Try.underlying32 rfl) (J (Ki Z Z Z) (AF ?_))
    first | refine BA rfl (fun h23=>?_) (fun h23=>?_) | refine Az rfl (fun h23=>?_) (fun h23=>?_)
    ·refine AG (AI ?_)
     first | refine J (BN Z Z AK rfl) ?_ | refine J (BO Z Z AK Z Z Z) ?_ | refine J (BP Z Z (rfl) rfl AK rfl) ?_
     refine U (Bm Z Z Z Z Z Z Z Bd) (AE Z Z (AF (Au ?_)));exact ⟨_,[],[],Aq rfl,rfl,rfl,by rw [N8 (by omega) h18 (by omega)],rfl⟩
    ·refine Ai (AG (Ee [[],[0],[],[0,1,2],[],[4],[0,1,2,3,4,5],[0,1,2,3,4,5,6],[0,1,2,3,4,5,6,7]] mixed rfl (DL ?_)))
     first | refine AD [2] [] Z Z (fun _=>AB (A1 rfl A7 Z Z Z)) ?_ | refine AH [2] Z Z (fun _=>AB (A1 rfl A7 Z Z Z)) ?_ | refine AD [2] [] Z Z (fun _=>AB (A3 rfl A7 Z Z Z)) ?_ | refine AH [2] Z Z (fun _=>AB (A3 rfl A7 Z Z Z)) ?_ | refine AD [2] [] Z Z (fun _=>AB (A4 rfl A7 Z Z Z)) ?_ | refine AH [2] Z Z (fun _=>AB (A4 rfl A7 Z Z Z)) ?_ | refine AD [2] [] Z Z (fun _=>AB (A2 rfl A7 Z Z Z)) ?_ | refine AH [2] Z Z (fun _=>AB (A2 rfl A7 Z Z Z)) ?_ | refine AD [2] [] Z Z (fun _=>AB (A0 rfl A7 Z Z Z)) ?_ | refine AH [2] Z Z (fun _=>AB (A0 rfl A7 Z Z Z)) ?_
     first | refine AD [25] [20] Z Z (fun _=>AB (AX Z Z AL rfl)) ?_ | refine AD [25] [20] Z Z (fun _=>AB (AU Z Z Z AL rfl)) ?_ | refine AD [25] [20] Z Z (fun _=>AB (AW Z Z (rfl) rfl AL rfl)) ?_
     first | refine AD [1] [] Z Z (fun _=>AB (A9 Z Z)) ?_ | refine AH [1] Z Z (fun _=>AB (A9 Z Z)) ?_
     first | refine AD [26,27] [] Z Z (fun _=>AB (DE (EU w.R x (by omega)) Z Z)) ?_ | refine AH [26,27] Z Z (fun _=>AB (DE (EU w.R x (by omega)) Z Z)) ?_
     first | refine AD [2] [] Z Z (fun _=>AB (A1 rfl Ab Z Z Z)) ?_ | refine AH [2] Z Z (fun _=>AB (A1 rfl Ab Z Z Z)) ?_ | refine AD [2] [] Z Z (fun _=>AB (A3 rfl Ab Z Z Z)) ?_ | refine AH [2] Z Z (fun _=>AB (A3 rfl Ab Z Z Z)) ?_ | refine AD [2] [] Z Z (fun _=>AB (A4 rfl Ab Z Z Z)) ?_ | refine AH [2] Z Z (fun _=>AB (A4 rfl Ab Z Z Z)) ?_ | refine AD [2] [] Z Z (fun _=>AB (A2 rfl Ab Z Z Z)) ?_ | refine AH [2] Z Z (fun _=>AB (A2 rfl Ab Z Z Z)) ?_ | refine AD [2] [] Z Z (fun _=>AB (A0 rfl Ab Z Z Z)) ?_ | refine AH [2] Z Z (fun _=>AB (A0 rfl Ab Z Z Z)) ?_
     first | refine AD [29] [20] Z Z (fun _=>AB (AX Z Z Al rfl)) ?_ | refine AD [29] [20] Z Z (fun _=>AB (AU Z Z Z Al rfl)) ?_ | refine AD [29] [20] Z Z (fun _=>AB (AW Z Z (rfl) rfl Al rfl)) ?_
     refine DM 6 Z Z Z (BI 7 Z Z (J (Ml D6 Lq Z Z Z) (AF ⟨rfl,?_⟩)));refine BI 8 Z Z (U (Bm Z Z Z Z Z Z Z Bd) (AF ⟨rfl,?_⟩));refine BI 9 Z Z (AE Z Z (AF ⟨rfl,?_⟩));refine ED (Au ?_);exact ⟨_,[],[],Aq rfl,rfl,rfl,by rw [N7 (by omega) h18 (by omega)],rfl⟩
noncomputable def gD (w:Ws):D:=if acyW w=true then DJ (groupsW w) else .sl (some true) []
theorem CX (w:Ws) (hw:BV w) (hl:w.K.length≤2000000):B3 Try.prog 37 [.d (Jh w)] (.tup [gD w,Ak (acyW w)]):=by
 have h:=Lo w hw hl;unfold gD
 by_cases hc:acyW w=true
 ·rw [if_pos hc] at h⊢;rw [hc];exact h
 ·rw [if_neg hc] at h⊢;rw [Bool.eq_false_iff.2 hc];exact h
set_option maxHeartbeats 4000000 in
theorem Kn (w:Ws) (hw:BV w) (hK:w.K.length≤1000000) (l:Lw):B3 Try.prog 35 [.d (Jh w),.d (Nt l)] (.tup [Jh (lnkW w l).1,Bv (lnkW w l).2]):=by
 have hfew:=hw.few;refine DA Try.func35 Z Z Try.ntmps35 Z Z Z fun F hF=>(AG ?_);refine AI (U (IG 20 Z Z Z Z Z Z Z) (U (IG 21 Z Z Z Z Z Z Z) (U (HG 22 D6 Z Z Z Z) (AE Z Z (AF (AG (AG (AI ?_))))))))
 first | refine J (A1 rfl K8 Z Z Z) ?_ | refine J (A3 rfl K8 Z Z Z) ?_ | refine J (A4 rfl K8 Z Z Z) ?_ | refine J (A2 rfl K8 Z Z Z) ?_ | refine J (A0 rfl K8 Z Z Z) ?_
 first | refine J (AX Z Z Bf rfl) ?_ | refine J (AU Z Z Z Bf rfl) ?_ | refine J (AW Z Z (rfl) rfl Bf rfl) ?_
 first | refine J (G3 Z Z Z) ?_ | refine J (G0 Z Z Z) ?_ | refine J (GX Z Z Z) ?_ | refine J (G4 Try.underlying3 Z Z Z) ?_ | refine J (G6 Try.underlying3 Z Z Z) ?_ | refine J (st_neqN Try.underlying3 Z Z) ?_ | refine J (GZ Try.underlying3 Z Z) ?_ | refine J (st_neqMz Try.underlying3 Z Z) ?_ | refine J (G5 Try.underlying3 Z Z Z) ?_ | refine J (st_neqFN Try.underlying3 Z Z) ?_
 refine AC Z Z ?_
 first | refine JQ 12 rfl (fun h12=>?_) (fun h12=>?_) | refine ID 12 rfl (fun h12=>?_) (fun h12=>?_)
 ·refine A8 Z Z Z ?_
  first | refine J (A1 rfl K8 Z Z Z) ?_ | refine J (A3 rfl K8 Z Z Z) ?_ | refine J (A4 rfl K8 Z Z Z) ?_ | refine J (A2 rfl K8 Z Z Z) ?_ | refine J (A0 rfl K8 Z Z Z) ?_
  refine A8 Z Z Z ?_
  first | refine J (AX Z Z Bf rfl) ?_ | refine J (AU Z Z Z Bf rfl) ?_ | refine J (AW Z Z (rfl) rfl Bf rfl) ?_
  refine A8 Z Z Z ?_
  first | refine J (G3 Z Z Z) ?_ | refine J (G0 Z Z Z) ?_ | refine J (GX Z Z Z) ?_ | refine J (G4 Try.underlying3 Z Z Z) ?_ | refine J (G6 Try.underlying3 Z Z Z) ?_ | refine J (st_neqN Try.underlying3 Z Z) ?_ | refine J (GZ Try.underlying3 Z Z) ?_ | refine J (st_neqMz Try.underlying3 Z Z) ?_ | refine J (G5 Try.underlying3 Z Z Z) ?_ | refine J (st_neqFN Try.underlying3 Z Z) ?_
  refine J (G1 Z Z Z Z) (AF ?_)
  first | refine BA rfl (fun h16=>?_) (fun h16=>?_) | refine Az rfl (fun h16=>?_) (fun h16=>?_)
  ·refine AG (AI ?_)
   first | refine J (BN Z Z AK rfl) ?_ | refine J (BO Z Z AK Z Z Z) ?_ | refine J (BP Z Z (rfl) rfl AK rfl) ?_
   refine U (Bm Z Z Z Z Z Z Z Bd) (AE Z Z (AF (Au ?_)));exact ⟨_,[],[],Aq rfl,rfl,rfl,by rw [Q4 h12 h16],rfl⟩
  ·refine Ai (AG (AG (AI ?_)))
   first | refine J (A1 rfl A7 Z Z Z) ?_ | refine J (A3 rfl A7 Z Z Z) ?_ | refine J (A4 rfl A7 Z Z Z) ?_ | refine J (A2 rfl A7 Z Z Z) ?_ | refine J (A0 rfl A7 Z Z Z) ?_
   first | refine J (AX Z Z AL rfl) ?_ | refine J (AU Z Z Z AL rfl) ?_ | refine J (AW Z Z (rfl) rfl AL rfl) ?_
   first | refine J (A1 rfl CD Z Z Z) ?_ | refine J (A3 rfl CD Z Z Z) ?_ | refine J (A4 rfl CD Z Z Z) ?_ | refine J (A2 rfl CD Z Z Z) ?_ | refine J (A0 rfl CD Z Z Z) ?_
   first | refine J (AX Z Z AY rfl) ?_ | refine J (AU Z Z Z AY rfl) ?_ | refine J (AW Z Z (rfl) rfl AY rfl) ?_
   refine J (DE (Bo w.R l.f (by omega)) Z Z) ?_
   first | refine J (EG Z Z) ?_ | refine J (EE Z Z) ?_
   refine AC Z Z ?_
   first | refine JQ 24 rfl (fun h24=>?_) (fun h24=>?_) | refine ID 24 rfl (fun h24=>?_) (fun h24=>?_)
   ·refine Ay Z Z Z Z (Ay Z Z Z Z ?_);refine Ay Z Z Z Z (Ay Z Z Z Z (Ay Z Z Z Z (Ay Z Z Z Z (J (G1 Z Z Z Z) (AF (IE Z Z (AG (AI ?_))))))))
    first | refine J (BN Z Z AK rfl) ?_ | refine J (BO Z Z AK Z Z Z) ?_ | refine J (BP Z Z (rfl) rfl AK rfl) ?_
    refine U (Bm Z Z Z Z Z Z Z Bd) (AE Z Z (AF (Au ?_)));have h9:lnkW w l=(w,9):=MN (by first | exact .inl (Classical.not_not.1 h12) | exact .inr (Classical.not_not.1 h16)) (by first | exact .inl h24 | exact .inr h31);exact ⟨_,[],[],Aq rfl,rfl,rfl,by rw [h9],rfl⟩
   ·refine A8 Z Z Z ?_
    first | refine J (A1 rfl A7 Z Z Z) ?_ | refine J (A3 rfl A7 Z Z Z) ?_ | refine J (A4 rfl A7 Z Z Z) ?_ | refine J (A2 rfl A7 Z Z Z) ?_ | refine J (A0 rfl A7 Z Z Z) ?_
    refine A8 Z Z Z ?_
    first | refine J (AX Z Z AL rfl) ?_ | refine J (AU Z Z Z AL rfl) ?_ | refine J (AW Z Z (rfl) rfl AL rfl) ?_
    refine A8 Z Z Z ?_
    first | refine J (A1 rfl Cg Z Z Z) ?_ | refine J (A3 rfl Cg Z Z Z) ?_ | refine J (A4 rfl Cg Z Z Z) ?_ | refine J (A2 rfl Cg Z Z Z) ?_ | refine J (A0 rfl Cg Z Z Z) ?_
    refine A8 Z Z Z ?_
    first | refine J (AX Z Z AY rfl) ?_ | refine J (AU Z Z Z AY rfl) ?_ | refine J (AW Z Z (rfl) rfl AY rfl) ?_
    refine A8 Z Z Z (J (DE (Bo w.R l.r (by omega)) Z Z) (A8 Z Z Z ?_))
    first | refine J (EG Z Z) ?_ | refine J (EE Z Z) ?_
    refine J (Ey Z Z Z Z) (AF ?_)
    first | refine BA rfl (fun h31=>?_) (fun h31=>?_) | refine Az rfl (fun h31=>?_) (fun h31=>?_)
    ·refine AG (AI ?_)
     first | refine J (BN Z Z AK rfl) ?_ | refine J (BO Z Z AK Z Z Z) ?_ | refine J (BP Z Z (rfl) rfl AK rfl) ?_
     refine U (Bm Z Z Z Z Z Z Z Bd) (AE Z Z (AF (Au ?_)));have h9:lnkW w l=(w,9):=MN (by first | exact .inl (Classical.not_not.1 h12) | exact .inr (Classical.not_not.1 h16)) (by first | exact .inl h24 | exact .inr h31);exact ⟨_,[],[],Aq rfl,rfl,rfl,by rw [h9],rfl⟩
    ·refine Ai (AG (AG ?_));have ht:l.t=0∨l.t=1:=by first | exact .inl (Classical.not_not.1 h12) | exact .inr (Classical.not_not.1 h16)
     have hfR:l.f∈w.R:=Classical.not_not.1 h24;have hrR:l.r∈w.R:=Classical.not_not.1 h31;refine AI ?_
     first | refine J (A1 rfl CD Z Z Z) ?_ | refine J (A3 rfl CD Z Z Z) ?_ | refine J (A4 rfl CD Z Z Z) ?_ | refine J (A2 rfl CD Z Z Z) ?_ | refine J (A0 rfl CD Z Z Z) ?_
     first | refine J (AX Z Z AY rfl) ?_ | refine J (AU Z Z Z AY rfl) ?_ | refine J (AW Z Z (rfl) rfl AY rfl) ?_
     first | refine J (A1 rfl Cg Z Z Z) ?_ | refine J (A3 rfl Cg Z Z Z) ?_ | refine J (A4 rfl Cg Z Z Z) ?_ | refine J (A2 rfl Cg Z Z Z) ?_ | refine J (A0 rfl Cg Z Z Z) ?_
     first | refine J (AX Z Z AY rfl) ?_ | refine J (AU Z Z Z AY rfl) ?_ | refine J (AW Z Z (rfl) rfl AY rfl) ?_
     first | refine J (EZ Z Z Z) ?_ | refine J (Ea Z Z Z) ?_ | refine J (EF Z Z Z) ?_ | refine J (E0 Try.underlying9 Z Z Z) ?_ | refine J (E5 Try.underlying9 Z Z Z) ?_ | refine J (E4 Try.underlying9 Z Z) ?_ | refine J (E9 Try.underlying9 Z Z) ?_ | refine J (E8 Try.underlying9 Z Z) ?_ | refine J (E3 Try.underlying9 Z Z Z) ?_ | refine J (E7 Try.underlying9 Z Z) ?_
     refine AF ?_
     first | refine BA rfl (fun h37=>?_) (fun h37=>?_) | refine Az rfl (fun h37=>?_) (fun h37=>?_)
     ·refine AG (AI ?_)
      first | refine J (BN Z Z AK rfl) ?_ | refine J (BO Z Z AK Z Z Z) ?_ | refine J (BP Z Z (rfl) rfl AK rfl) ?_
      refine U (Bm Z Z Z Z Z Z Z Bd) (AE Z Z (AF (Au ?_)));exact ⟨_,[],[],Aq rfl,rfl,rfl,by rw [KK ht hfR hrR h37],rfl⟩
     ·refine Ai (AG (AG (AI ?_)))
      first | refine J (BN Z Z AK rfl) ?_ | refine J (BO Z Z AK Z Z Z) ?_ | refine J (BP Z Z (rfl) rfl AK rfl) ?_
      first | refine J (BN Z Z Ar rfl) ?_ | refine J (BO Z Z Ar Z Z Z) ?_ | refine J (BP Z Z (rfl) rfl Ar rfl) ?_
      refine J (DE (LH w l (by omega)) Z Z) (AF ?_)
      first | refine BA rfl (fun h41=>?_) (fun h41=>?_) | refine Az rfl (fun h41=>?_) (fun h41=>?_)
      ·refine AG (AI ?_)
       first | refine J (BN Z Z AK rfl) ?_ | refine J (BO Z Z AK Z Z Z) ?_ | refine J (BP Z Z (rfl) rfl AK rfl) ?_
       refine U (Bm Z Z Z Z Z Z Z Bd) (AE Z Z (AF (Au ?_)));exact ⟨_,[],[],Aq rfl,rfl,rfl,by rw [lnk7 ht hfR hrR h37 h41],rfl⟩
      ·refine Ai (AG ?_);have hok1:=hw.with_ ht hfR hrR h37 h41;refine Ee [[],[0],[],[],[3],[2,3,4],[],[6],[2,3,4,5,6,7],[0,1,2,3,4,5,6,7,8],[],[0,1,2,3,4,5,6,7,8,9,10]] mixed rfl (DL ?_)
       first | refine AD [2] [] Z Z (fun _=>AB (A1 rfl A7 Z Z Z)) ?_ | refine AH [2] Z Z (fun _=>AB (A1 rfl A7 Z Z Z)) ?_ | refine AD [2] [] Z Z (fun _=>AB (A3 rfl A7 Z Z Z)) ?_ | refine AH [2] Z Z (fun _=>AB (A3 rfl A7 Z Z Z)) ?_ | refine AD [2] [] Z Z (fun _=>AB (A4 rfl A7 Z Z Z)) ?_ | refine AH [2] Z Z (fun _=>AB (A4 rfl A7 Z Z Z)) ?_ | refine AD [2] [] Z Z (fun _=>AB (A2 rfl A7 Z Z Z)) ?_ | refine AH [2] Z Z (fun _=>AB (A2 rfl A7 Z Z Z)) ?_ | refine AD [2] [] Z Z (fun _=>AB (A0 rfl A7 Z Z Z)) ?_ | refine AH [2] Z Z (fun _=>AB (A0 rfl A7 Z Z Z)) ?_
       first | refine AD [43] [20] Z Z (fun _=>AB (AX Z Z AL rfl)) ?_ | refine AD [43] [20] Z Z (fun _=>AB (AU Z Z Z AL rfl)) ?_ | refine AD [43] [20] Z Z (fun _=>AB (AW Z Z (rfl) rfl AL rfl)) ?_
       refine Bp [] [30] [(45,_)] Z Z (fun _=>IC (HC 30 FD Z Z Z Z Z Z Z Z)) (.inr ⟨45,_,rfl,rfl,rfl,rfl,rfl⟩) Z Z Z Z Z ?_
       first | refine AD [2] [] Z Z (fun _=>AB (A1 rfl Ab Z Z Z)) ?_ | refine AH [2] Z Z (fun _=>AB (A1 rfl Ab Z Z Z)) ?_ | refine AD [2] [] Z Z (fun _=>AB (A3 rfl Ab Z Z Z)) ?_ | refine AH [2] Z Z (fun _=>AB (A3 rfl Ab Z Z Z)) ?_ | refine AD [2] [] Z Z (fun _=>AB (A4 rfl Ab Z Z Z)) ?_ | refine AH [2] Z Z (fun _=>AB (A4 rfl Ab Z Z Z)) ?_ | refine AD [2] [] Z Z (fun _=>AB (A2 rfl Ab Z Z Z)) ?_ | refine AH [2] Z Z (fun _=>AB (A2 rfl Ab Z Z Z)) ?_ | refine AD [2] [] Z Z (fun _=>AB (A0 rfl Ab Z Z Z)) ?_ | refine AH [2] Z Z (fun _=>AB (A0 rfl Ab Z Z Z)) ?_
       first | refine AD [46] [20] Z Z (fun _=>AB (AX Z Z Al rfl)) ?_ | refine AD [46] [20] Z Z (fun _=>AB (AU Z Z Z Al rfl)) ?_ | refine AD [46] [20] Z Z (fun _=>AB (AW Z Z (rfl) rfl Al rfl)) ?_
       refine Bp [45,47] [30] [(48,_)] Z Z (fun _=>IC (K9 (emb:=Nt) [] w.K Z Z Z Z Z Z (fun _=>rfl) FD (by show (0+w.K.length)*40≤_;omega) Z Z Z Z)) (.inr ⟨48,_,rfl,rfl,rfl,rfl,rfl⟩) Z Z Z Z Z ?_
       first | refine AD [3] [21] Z Z (fun _=>AB (BN Z Z Ar rfl)) ?_ | refine AD [3] [21] Z Z (fun _=>AB (BO Z Z Ar Z Z Z)) ?_ | refine AD [3] [21] Z Z (fun _=>AB (BP Z Z (rfl) rfl Ar rfl)) ?_
       refine Bp [49] [31] [(50,_)] Z Z (fun _=>IC (HC 31 FD Z Z Z Z Z Z Z Z)) (.inr ⟨50,_,rfl,rfl,rfl,rfl,rfl⟩) Z Z Z Z Z ?_
       first | refine JI [45] [48,50] [30,31] [(51,_)] Z Z (fun _=>IC (J1 (w.K) ([l]) Z Z Z Z Z Z Z Z FD (by simp only [List.length_singleton];omega) Z Z Z Z)) (.inr ⟨51,_,rfl,rfl,rfl,rfl,rfl⟩) Z Z Z Z Z ?_ | refine JI [45] [48,50] [30,31] [(51,_)] Z Z (fun _=>IC (K9 (w.K) ([l]) Z Z Z Z Z Z (fun _=>rfl) FD (by simp only [List.length_singleton];omega) Z Z Z Z)) (.inr ⟨51,_,rfl,rfl,rfl,rfl,rfl⟩) Z Z Z Z Z ?_
       first | refine AD [44,51] [] Z Z (fun _=>AB (Ml D6 Lq Z Z Z)) ?_ | refine AH [44,51] Z Z (fun _=>AB (Ml D6 Lq Z Z Z)) ?_
       refine Bp [] [32] [(6,_)] Z Z (fun _=>IC (HG 32 D6 Z Z Z Z)) (.inr ⟨6,_,rfl,rfl,rfl,rfl,rfl⟩) Z Z Z Z Z (DM 11 Z Z Z (BI 12 Z Z (U (Bm Z Z Z Z Z Z Z Bd) (AF ⟨rfl,?_⟩))));refine ED (AG (AG (CP (ys:=(w.K++ [l]).map Nt) 32 0 1 30 Z Z Z (Nat.le_of_eq (by rw [List.length_map])) (List.take_of_length_le (by rw [List.length_map];exact Nat.le_refl _)) Z Z Z Z Z Z (AI ?_))))
       first | refine J (BN Z Z AK rfl) ?_ | refine J (BO Z Z AK Z Z Z) ?_ | refine J (BP Z Z (rfl) rfl AK rfl) ?_
       refine J (DE (CX (BW w l) hok1 (by show (w.K++ [l]).length≤_;rw [List.length_append,List.length_singleton];omega)) Z Z) (AC Z Z ?_)
       first | refine J (B4 Z Z Z) ?_ | refine J (B5 Z Z Z) ?_
       first | refine J (B4 Z Z Z) ?_ | refine J (B5 Z Z Z) ?_
       refine AE Z Z (AE Z Z (AF (AG ?_)));have h0:=NQ ht hfR hrR h37 h41;refine AI (AC Z Z ?_)
       first | refine J (EG Z Z) ?_ | refine J (EE Z Z) ?_
       refine AF ?_
       first | refine BA rfl (fun h59=>?_) (fun h59=>?_) | refine Az rfl (fun h59=>?_) (fun h59=>?_)
       ·refine AG (AI ?_)
        first | refine J (BN Z Z AK rfl) ?_ | refine J (BO Z Z AK Z Z Z) ?_ | refine J (BP Z Z (rfl) rfl AK rfl) ?_
        refine U (Bm Z Z Z Z Z Z Z Bd) (AE Z Z (AF (Au ?_)));have hac:acyW (BW w l)=false:=by simpa using h59
        exact ⟨_,[],[],Aq rfl,rfl,rfl,by rw [h0,hac];rfl,rfl⟩
       ·refine Ai (AG (AI ?_))
        first | refine J (BN Z Z AK rfl) ?_ | refine J (BO Z Z AK Z Z Z) ?_ | refine J (BP Z Z (rfl) rfl AK rfl) ?_
        refine U (Bm Z Z Z Z Z Z Z Bd) (AE Z Z (AF (Au ?_)));have hac:acyW (BW w l)=true:=by simpa using h59
        exact ⟨_,[],[],Aq rfl,rfl,rfl,by rw [h0,if_pos hac];rfl,rfl⟩
 ·refine Ay Z Z Z Z ?_;refine Ay Z Z Z Z (Ay Z Z Z Z (J (Ey Z Z Z Z) (AF (D4 Z Z (Ai (AG (AG (AI ?_))))))))
  first | refine J (A1 rfl A7 Z Z Z) ?_ | refine J (A3 rfl A7 Z Z Z) ?_ | refine J (A4 rfl A7 Z Z Z) ?_ | refine J (A2 rfl A7 Z Z Z) ?_ | refine J (A0 rfl A7 Z Z Z) ?_
  first | refine J (AX Z Z AL rfl) ?_ | refine J (AU Z Z Z AL rfl) ?_ | refine J (AW Z Z (rfl) rfl AL rfl) ?_
  first | refine J (A1 rfl CD Z Z Z) ?_ | refine J (A3 rfl CD Z Z Z) ?_ | refine J (A4 rfl CD Z Z Z) ?_ | refine J (A2 rfl CD Z Z Z) ?_ | refine J (A0 rfl CD Z Z Z) ?_
  first | refine J (AX Z Z AY rfl) ?_ | refine J (AU Z Z Z AY rfl) ?_ | refine J (AW Z Z (rfl) rfl AY rfl) ?_
  refine J (DE (Bo w.R l.f (by omega)) Z Z) ?_
  first | refine J (EG Z Z) ?_ | refine J (EE Z Z) ?_
  refine AC Z Z ?_
  first | refine JQ 24 rfl (fun h24=>?_) (fun h24=>?_) | refine ID 24 rfl (fun h24=>?_) (fun h24=>?_)
  ·refine Ay Z Z Z Z (Ay Z Z Z Z ?_);refine Ay Z Z Z Z (Ay Z Z Z Z (Ay Z Z Z Z (Ay Z Z Z Z (J (G1 Z Z Z Z) (AF (IE Z Z (AG (AI ?_))))))))
   first | refine J (BN Z Z AK rfl) ?_ | refine J (BO Z Z AK Z Z Z) ?_ | refine J (BP Z Z (rfl) rfl AK rfl) ?_
   refine U (Bm Z Z Z Z Z Z Z Bd) (AE Z Z (AF (Au ?_)));have h9:lnkW w l=(w,9):=MN (by first | exact .inl (Classical.not_not.1 h12) | exact .inr (Classical.not_not.1 h16)) (by first | exact .inl h24 | exact .inr h31);exact ⟨_,[],[],Aq rfl,rfl,rfl,by rw [h9],rfl⟩
  ·refine A8 Z Z Z ?_
   first | refine J (A1 rfl A7 Z Z Z) ?_ | refine J (A3 rfl A7 Z Z Z) ?_ | refine J (A4 rfl A7 Z Z Z) ?_ | refine J (A2 rfl A7 Z Z Z) ?_ | refine J (A0 rfl A7 Z Z Z) ?_
   refine A8 Z Z Z ?_
   first | refine J (AX Z Z AL rfl) ?_ | refine J (AU Z Z Z AL rfl) ?_ | refine J (AW Z Z (rfl) rfl AL rfl) ?_
   refine A8 Z Z Z ?_
   first | refine J (A1 rfl Cg Z Z Z) ?_ | refine J (A3 rfl Cg Z Z Z) ?_ | refine J (A4 rfl Cg Z Z Z) ?_ | refine J (A2 rfl Cg Z Z Z) ?_ | refine J (A0 rfl Cg Z Z Z) ?_
   refine A8 Z Z Z ?_
   first | refine J (AX Z Z AY rfl) ?_ | refine J (AU Z Z Z AY rfl) ?_ | refine J (AW Z Z (rfl) rfl AY rfl) ?_
   refine A8 Z Z Z (J (DE (Bo w.R l.r (by omega)) Z Z) (A8 Z Z Z ?_))
   first | refine J (EG Z Z) ?_ | refine J (EE Z Z) ?_
   refine J (Ey Z Z Z Z) (AF ?_)
   first | refine BA rfl (fun h31=>?_) (fun h31=>?_) | refine Az rfl (fun h31=>?_) (fun h31=>?_)
   ·refine AG (AI ?_)
    first | refine J (BN Z Z AK rfl) ?_ | refine J (BO Z Z AK Z Z Z) ?_ | refine J (BP Z Z (rfl) rfl AK rfl) ?_
    refine U (Bm Z Z Z Z Z Z Z Bd) (AE Z Z (AF (Au ?_)));have h9:lnkW w l=(w,9):=MN (by first | exact .inl (Classical.not_not.1 h12) | exact .inr (Classical.not_not.1 h16)) (by first | exact .inl h24 | exact .inr h31);exact ⟨_,[],[],Aq rfl,rfl,rfl,by rw [h9],rfl⟩
   ·refine Ai (AG (AG ?_));have ht:l.t=0∨l.t=1:=by first | exact .inl (Classical.not_not.1 h12) | exact .inr (Classical.not_not.1 h16)
    have hfR:l.f∈w.R:=Classical.not_not.1 h24;have hrR:l.r∈w.R:=Classical.not_not.1 h31;refine AI ?_
    first | refine J (A1 rfl CD Z Z Z) ?_ | refine J (A3 rfl CD Z Z Z) ?_ | refine J (A4 rfl CD Z Z Z) ?_ | refine J (A2 rfl CD Z Z Z) ?_ | refine J (A0 rfl CD Z Z Z) ?_
    first | refine J (AX Z Z AY rfl) ?_ | refine J (AU Z Z Z AY rfl) ?_ | refine J (AW Z Z (rfl) rfl AY rfl) ?_
    first | refine J (A1 rfl Cg Z Z Z) ?_ | refine J (A3 rfl Cg Z Z Z) ?_ | refine J (A4 rfl Cg Z Z Z) ?_ | refine J (A2 rfl Cg Z Z Z) ?_ | refine J (A0 rfl Cg Z Z Z) ?_
    first | refine J (AX Z Z AY rfl) ?_ | refine J (AU Z Z Z AY rfl) ?_ | refine J (AW Z Z (rfl) rfl AY rfl) ?_
    first | refine J (EZ Z Z Z) ?_ | refine J (Ea Z Z Z) ?_ | refine J (EF Z Z Z) ?_ | refine J (E0 Try.underlying9 Z Z Z) ?_ | refine J (E5 Try.underlying9 Z Z Z) ?_ | refine J (E4 Try.underlying9 Z Z) ?_ | refine J (E9 Try.underlying9 Z Z) ?_ | refine J (E8 Try.underlying9 Z Z) ?_ | refine J (E3 Try.underlying9 Z Z Z) ?_ | refine J (E7 Try.underlying9 Z Z) ?_
    refine AF ?_
    first | refine BA rfl (fun h37=>?_) (fun h37=>?_) | refine Az rfl (fun h37=>?_) (fun h37=>?_)
    ·refine AG (AI ?_)
     first | refine J (BN Z Z AK rfl) ?_ | refine J (BO Z Z AK Z Z Z) ?_ | refine J (BP Z Z (rfl) rfl AK rfl) ?_
     refine U (Bm Z Z Z Z Z Z Z Bd) (AE Z Z (AF (Au ?_)));exact ⟨_,[],[],Aq rfl,rfl,rfl,by rw [KK ht hfR hrR h37],rfl⟩
    ·refine Ai (AG (AG (AI ?_)))
     first | refine J (BN Z Z AK rfl) ?_ | refine J (BO Z Z AK Z Z Z) ?_ | refine J (BP Z Z (rfl) rfl AK rfl) ?_
     first | refine J (BN Z Z Ar rfl) ?_ | refine J (BO Z Z Ar Z Z Z) ?_ | refine J (BP Z Z (rfl) rfl Ar rfl) ?_
     refine J (DE (LH w l (by omega)) Z Z) (AF ?_)
     first | refine BA rfl (fun h41=>?_) (fun h41=>?_) | refine Az rfl (fun h41=>?_) (fun h41=>?_)
     ·refine AG (AI ?_)
      first | refine J (BN Z Z AK rfl) ?_ | refine J (BO Z Z AK Z Z Z) ?_ | refine J (BP Z Z (rfl) rfl AK rfl) ?_
      refine U (Bm Z Z Z Z Z Z Z Bd) (AE Z Z (AF (Au ?_)));exact ⟨_,[],[],Aq rfl,rfl,rfl,by rw [lnk7 ht hfR hrR h37 h41],rfl⟩
     ·refine Ai (AG ?_);have hok1:=hw.with_ ht hfR hrR h37 h41;refine Ee [[],[0],[],[],[3],[2,3,4],[],[6],[2,3,4,5,6,7],[0,1,2,3,4,5,6,7,8],[],[0,1,2,3,4,5,6,7,8,9,10]] mixed rfl (DL ?_)
      first | refine AD [2] [] Z Z (fun _=>AB (A1 rfl A7 Z Z Z)) ?_ | refine AH [2] Z Z (fun _=>AB (A1 rfl A7 Z Z Z)) ?_ | refine AD [2] [] Z Z (fun _=>AB (A3 rfl A7 Z Z Z)) ?_ | refine AH [2] Z Z (fun _=>AB (A3 rfl A7 Z Z Z)) ?_ | refine AD [2] [] Z Z (fun _=>AB (A4 rfl A7 Z Z Z)) ?_ | refine AH [2] Z Z (fun _=>AB (A4 rfl A7 Z Z Z)) ?_ | refine AD [2] [] Z Z (fun _=>AB (A2 rfl A7 Z Z Z)) ?_ | refine AH [2] Z Z (fun _=>AB (A2 rfl A7 Z Z Z)) ?_ | refine AD [2] [] Z Z (fun _=>AB (A0 rfl A7 Z Z Z)) ?_ | refine AH [2] Z Z (fun _=>AB (A0 rfl A7 Z Z Z)) ?_
      first | refine AD [43] [20] Z Z (fun _=>AB (AX Z Z AL rfl)) ?_ | refine AD [43] [20] Z Z (fun _=>AB (AU Z Z Z AL rfl)) ?_ | refine AD [43] [20] Z Z (fun _=>AB (AW Z Z (rfl) rfl AL rfl)) ?_
      refine Bp [] [30] [(45,_)] Z Z (fun _=>IC (HC 30 FD Z Z Z Z Z Z Z Z)) (.inr ⟨45,_,rfl,rfl,rfl,rfl,rfl⟩) Z Z Z Z Z ?_
      first | refine AD [2] [] Z Z (fun _=>AB (A1 rfl Ab Z Z Z)) ?_ | refine AH [2] Z Z (fun _=>AB (A1 rfl Ab Z Z Z)) ?_ | refine AD [2] [] Z Z (fun _=>AB (A3 rfl Ab Z Z Z)) ?_ | refine AH [2] Z Z (fun _=>AB (A3 rfl Ab Z Z Z)) ?_ | refine AD [2] [] Z Z (fun _=>AB (A4 rfl Ab Z Z Z)) ?_ | refine AH [2] Z Z (fun _=>AB (A4 rfl Ab Z Z Z)) ?_ | refine AD [2] [] Z Z (fun _=>AB (A2 rfl Ab Z Z Z)) ?_ | refine AH [2] Z Z (fun _=>AB (A2 rfl Ab Z Z Z)) ?_ | refine AD [2] [] Z Z (fun _=>AB (A0 rfl Ab Z Z Z)) ?_ | refine AH [2] Z Z (fun _=>AB (A0 rfl Ab Z Z Z)) ?_
      first | refine AD [46] [20] Z Z (fun _=>AB (AX Z Z Al rfl)) ?_ | refine AD [46] [20] Z Z (fun _=>AB (AU Z Z Z Al rfl)) ?_ | refine AD [46] [20] Z Z (fun _=>AB (AW Z Z (rfl) rfl Al rfl)) ?_
      refine Bp [45,47] [30] [(48,_)] Z Z (fun _=>IC (K9 (emb:=Nt) [] w.K Z Z Z Z Z Z (fun _=>rfl) FD (by show (0+w.K.length)*40≤_;omega) Z Z Z Z)) (.inr ⟨48,_,rfl,rfl,rfl,rfl,rfl⟩) Z Z Z Z Z ?_
      first | refine AD [3] [21] Z Z (fun _=>AB (BN Z Z Ar rfl)) ?_ | refine AD [3] [21] Z Z (fun _=>AB (BO Z Z Ar Z Z Z)) ?_ | refine AD [3] [21] Z Z (fun _=>AB (BP Z Z (rfl) rfl Ar rfl)) ?_
      refine Bp [49] [31] [(50,_)] Z Z (fun _=>IC (HC 31 FD Z Z Z Z Z Z Z Z)) (.inr ⟨50,_,rfl,rfl,rfl,rfl,rfl⟩) Z Z Z Z Z ?_
      first | refine JI [45] [48,50] [30,31] [(51,_)] Z Z (fun _=>IC (J1 (w.K) ([l]) Z Z Z Z Z Z Z Z FD (by simp only [List.length_singleton];omega) Z Z Z Z)) (.inr ⟨51,_,rfl,rfl,rfl,rfl,rfl⟩) Z Z Z Z Z ?_ | refine JI [45] [48,50] [30,31] [(51,_)] Z Z (fun _=>IC (K9 (w.K) ([l]) Z Z Z Z Z Z (fun _=>rfl) FD (by simp only [List.length_singleton];omega) Z Z Z Z)) (.inr ⟨51,_,rfl,rfl,rfl,rfl,rfl⟩) Z Z Z Z Z ?_
      first | refine AD [44,51] [] Z Z (fun _=>AB (Ml D6 Lq Z Z Z)) ?_ | refine AH [44,51] Z Z (fun _=>AB (Ml D6 Lq Z Z Z)) ?_
      refine Bp [] [32] [(6,_)] Z Z (fun _=>IC (HG 32 D6 Z Z Z Z)) (.inr ⟨6,_,rfl,rfl,rfl,rfl,rfl⟩) Z Z Z Z Z (DM 11 Z Z Z (BI 12 Z Z (U (Bm Z Z Z Z Z Z Z Bd) (AF ⟨rfl,?_⟩))));refine ED (AG (AG (CP (ys:=(w.K++ [l]).map Nt) 32 0 1 30 Z Z Z (Nat.le_of_eq (by rw [List.length_map])) (List.take_of_length_le (by rw [List.length_map];exact Nat.le_refl _)) Z Z Z Z Z Z (AI ?_))))
      first | refine J (BN Z Z AK rfl) ?_ | refine J (BO Z Z AK Z Z Z) ?_ | refine J (BP Z Z (rfl) rfl AK rfl) ?_
      refine J (DE (CX (BW w l) hok1 (by show (w.K++ [l]).length≤_;rw [List.length_append,List.length_singleton];omega)) Z Z) (AC Z Z ?_)
      first | refine J (B4 Z Z Z) ?_ | refine J (B5 Z Z Z) ?_
      first | refine J (B4 Z Z Z) ?_ | refine J (B5 Z Z Z) ?_
      refine AE Z Z (AE Z Z (AF (AG ?_)));have h0:=NQ ht hfR hrR h37 h41;refine AI (AC Z Z ?_)
      first | refine J (EG Z Z) ?_ | refine J (EE Z Z) ?_
      refine AF ?_
      first | refine BA rfl (fun h59=>?_) (fun h59=>?_) | refine Az rfl (fun h59=>?_) (fun h59=>?_)
      ·refine AG (AI ?_)
       first | refine J (BN Z Z AK rfl) ?_ | refine J (BO Z Z AK Z Z Z) ?_ | refine J (BP Z Z (rfl) rfl AK rfl) ?_
       refine U (Bm Z Z Z Z Z Z Z Bd) (AE Z Z (AF (Au ?_)));have hac:acyW (BW w l)=false:=by simpa using h59
       exact ⟨_,[],[],Aq rfl,rfl,rfl,by rw [h0,hac];rfl,rfl⟩
      ·refine Ai (AG (AI ?_))
       first | refine J (BN Z Z AK rfl) ?_ | refine J (BO Z Z AK Z Z Z) ?_ | refine J (BP Z Z (rfl) rfl AK rfl) ?_
       refine U (Bm Z Z Z Z Z Z Z Bd) (AE Z Z (AF (Au ?_)));have hac:acyW (BW w l)=true:=by simpa using h59
       exact ⟨_,[],[],Aq rfl,rfl,rfl,by rw [h0,if_pos hac];rfl,rfl⟩
theorem lw_neC (a b:Lw):(!BB (lwC a) (lwC b))=decide (¬a=b):=by rw [Q0];simp
def Ht (l:Lw) (K:List Lw) (k:Nat):List Lw:=(K.take k).filter fun x=>!decide (x=l)
theorem P8 {l:Lw} {K:List Lw} {k:Nat} (hk:k<K.length) (h:¬K[k]=l):Ht l K (k+1)=Ht l K k++ [K[k]]:=by
 unfold Ht;rw [List.take_succ_eq_append_getElem hk,List.filter_append];simp [h]
theorem O3 {l:Lw} {K:List Lw} {k:Nat} (hk:k<K.length) (h:K[k]=l):Ht l K (k+1)=Ht l K k:=by
 unfold Ht;rw [List.take_succ_eq_append_getElem hk,List.filter_append];simp [h]
theorem P7 (l:Lw) (K:List Lw) (k:Nat):(Ht l K k).length≤K.length:=by
 unfold Ht;exact Nat.le_trans (List.length_filter_le _ _) (by rw [List.length_take];omega)
set_option maxHeartbeats 4000000 in
theorem Lm (w:Ws) (hw:BV w) (hK:w.K.length≤1000000) (l:Lw):B3 Try.prog 36 [.d (Jh w),.d (Nt l)] (.tup [Jh (unlW w l).1,Bv (unlW w l).2]):=by
 have hfew:=hw.few;refine DA Try.func36 Z Z Try.ntmps36 Z Z Z fun F hF=>(AG ?_);refine AI (U (IG 20 Z Z Z Z Z Z Z) (U (IG 21 Z Z Z Z Z Z Z) (U (HG 22 D6 Z Z Z Z) (AE Z Z (AF (AG (AG (AI ?_))))))))
 first | refine J (BN Z Z AK rfl) ?_ | refine J (BO Z Z AK Z Z Z) ?_ | refine J (BP Z Z (rfl) rfl AK rfl) ?_
 first | refine J (BN Z Z Ar rfl) ?_ | refine J (BO Z Z Ar Z Z Z) ?_ | refine J (BP Z Z (rfl) rfl Ar rfl) ?_
 refine J (DE (LH w l (by omega)) Z Z) ?_
 first | refine J (EG Z Z) ?_ | refine J (EE Z Z) ?_
 refine AF ?_
 first | refine BA rfl (fun h13=>?_) (fun h13=>?_) | refine Az rfl (fun h13=>?_) (fun h13=>?_)
 ·refine AG (AI ?_)
  first | refine J (BN Z Z AK rfl) ?_ | refine J (BO Z Z AK Z Z Z) ?_ | refine J (BP Z Z (rfl) rfl AK rfl) ?_
  refine U (Bm Z Z Z Z Z Z Z Bd) (AE Z Z (AF (Au ?_)));exact ⟨_,[],[],Aq rfl,rfl,rfl,by rw [unl9 h13],rfl⟩
 ·refine Ai (AG ?_);have hlK:l∈w.K:=Classical.not_not.1 h13;have h0:=unl0 hlK;refine AI ?_
  first | refine J (A1 rfl A7 Z Z Z) ?_ | refine J (A3 rfl A7 Z Z Z) ?_ | refine J (A4 rfl A7 Z Z Z) ?_ | refine J (A2 rfl A7 Z Z Z) ?_ | refine J (A0 rfl A7 Z Z Z) ?_
  first | refine J (AX Z Z AL rfl) ?_ | refine J (AU Z Z Z AL rfl) ?_ | refine J (AW Z Z (rfl) rfl AL rfl) ?_
  refine J (Ml D6 Lq Z Z Z) (U (HG 32 D6 Z Z Z Z) (U (Bm Z Z Z Z Z Z Z Bd) ?_));refine AF (AG (AG (AI (AE Z Z (AF (B7 (D1 32 0 1 33 FD Z Z Z Z Z Z Z (FC (α:=Nat×List Lw) (fun q=>⟨51,[(2,(.ptr 20 0 0)),(3,(.ptr 21 0 0)),(4,(.ptr 22 0 0)),(6,(.ptr 32 0 0)),(7,(.d (natD q.1)))],[JL 20 w,(21,[.blk 71 [.d (AZ l.f),.d (Bv l.t),.d (AZ l.r)]]),(22,[.blk 35 [.d (.sl (some true) []),.d (.sl (some true) [])]]),(32,[.blk 35 [.d (stsD w.R),.own 33 0 q.2.length]]),(33,[.rowD 71 3 (q.2.map Nt)])]⟩) (fun q=>q.1≤w.K.length∧q.2=Ht l w.K q.1) (fun q=>w.K.length - q.1) ((0,[])) (⟨Nat.zero_le _,rfl⟩) (BC hF [20,21,22,32,33] Z Z ⟨rfl,rfl,rfl,rfl,rfl,trivial⟩) ?_))))))));rintro ⟨k,acc⟩ ⟨hk,hacc⟩;dsimp only at hk hacc⊢;refine AG (AG (AI (AC Z Z ?_)))
  first | refine J (A1 rfl Ab Z Z Z) ?_ | refine J (A3 rfl Ab Z Z Z) ?_ | refine J (A4 rfl Ab Z Z Z) ?_ | refine J (A2 rfl Ab Z Z Z) ?_ | refine J (A0 rfl Ab Z Z Z) ?_
  first | refine J (AX Z Z Al rfl) ?_ | refine J (AU Z Z Z Al rfl) ?_ | refine J (AW Z Z (rfl) rfl Al rfl) ?_
  refine J (Br rfl (List.length_map ..) Try.underlying33 rfl) ?_
  first | refine J (Ed Z Z Z) ?_ | refine J (Ef Z Z Z) ?_
  refine AF ?_
  first | refine BA rfl (fun h22=>?_) (fun h22=>?_) | refine Az rfl (fun h22=>?_) (fun h22=>?_)
  ·refine Ai (AG (B7 (AG ?_)));have hkl:k<w.K.length:=HB h22;have hal:acc.length≤w.K.length:=by rw [hacc];exact P7 _ _ _
   refine Ee [[],[0],[],[0,1,2],[0,1,2,3],[],[0,1,2,3,4,5]] mixed rfl (DL ?_)
   first | refine AD [2] [] Z Z (fun _=>AB (A1 rfl Ab Z Z Z)) ?_ | refine AH [2] Z Z (fun _=>AB (A1 rfl Ab Z Z Z)) ?_ | refine AD [2] [] Z Z (fun _=>AB (A3 rfl Ab Z Z Z)) ?_ | refine AH [2] Z Z (fun _=>AB (A3 rfl Ab Z Z Z)) ?_ | refine AD [2] [] Z Z (fun _=>AB (A4 rfl Ab Z Z Z)) ?_ | refine AH [2] Z Z (fun _=>AB (A4 rfl Ab Z Z Z)) ?_ | refine AD [2] [] Z Z (fun _=>AB (A2 rfl Ab Z Z Z)) ?_ | refine AH [2] Z Z (fun _=>AB (A2 rfl Ab Z Z Z)) ?_ | refine AD [2] [] Z Z (fun _=>AB (A0 rfl Ab Z Z Z)) ?_ | refine AH [2] Z Z (fun _=>AB (A0 rfl Ab Z Z Z)) ?_
   first | refine AD [25] [20] Z Z (fun _=>AB (AX Z Z Al rfl)) ?_ | refine AD [25] [20] Z Z (fun _=>AB (AU Z Z Z Al rfl)) ?_ | refine AD [25] [20] Z Z (fun _=>AB (AW Z Z (rfl) rfl Al rfl)) ?_
   first | refine AD [7] [] Z Z (fun _=>AB (A9 Z Z)) ?_ | refine AH [7] Z Z (fun _=>AB (A9 Z Z)) ?_
   first | refine AD [26,27] [] Z Z (fun _=>AB (BE (k) Z Z (rfl) (C7 hkl) Try.underlying33 rfl CF rfl)) ?_ | refine AH [26,27] Z Z (fun _=>AB (BE (k) Z Z (rfl) (C7 hkl) Try.underlying33 rfl CF rfl)) ?_ | refine AD [26,27] [] Z Z (fun _=>AB (BF (k) Z Z (rfl) (C7 hkl) rfl Try.underlying33 CF rfl)) ?_ | refine AH [26,27] Z Z (fun _=>AB (BF (k) Z Z (rfl) (C7 hkl) rfl Try.underlying33 CF rfl)) ?_
   first | refine AD [28] [] Z Z (fun _=>AB (BN Z Z Ar rfl)) ?_ | refine AH [28] Z Z (fun _=>AB (BN Z Z Ar rfl)) ?_ | refine AD [28] [] Z Z (fun _=>AB (BO Z Z Ar Z Z Z)) ?_ | refine AH [28] Z Z (fun _=>AB (BO Z Z Ar Z Z Z)) ?_ | refine AD [28] [] Z Z (fun _=>AB (BP Z Z (rfl) rfl Ar rfl)) ?_ | refine AH [28] Z Z (fun _=>AB (BP Z Z (rfl) rfl Ar rfl)) ?_
   first | refine AD [3] [21] Z Z (fun _=>AB (BN Z Z Ar rfl)) ?_ | refine AD [3] [21] Z Z (fun _=>AB (BO Z Z Ar Z Z Z)) ?_ | refine AD [3] [21] Z Z (fun _=>AB (BP Z Z (rfl) rfl Ar rfl)) ?_
   refine DM 6 Z Z Z (BI 7 Z Z (J (PW (la:=lwC w.K[k]) (lb:=lwC l) (ds:=lwT) (by kernel_rfl) (by kernel_rfl) (by kernel_rfl) Z Z Z Z (Gs _) (Gs _) (lw_neC _ _) rfl) (AF ⟨rfl,?_⟩)));refine ED ?_
   first | refine BA rfl (fun h31=>?_) (fun h31=>?_) | refine Az rfl (fun h31=>?_) (fun h31=>?_)
   ·refine Ee [[],[0],[],[2],[],[2,3,4],[2,3,4,5],[2,3,4,5,6],[0,1,2,3,4,5,6,7],[0,1,2,3,4,5,6,7,8],[0,1,2,3,4,5,6,7,8,9]] mixed rfl (DL ?_)
    first | refine AD [6] [] Z Z (fun _=>AB (A1 rfl Ab Z Z Z)) ?_ | refine AH [6] Z Z (fun _=>AB (A1 rfl Ab Z Z Z)) ?_ | refine AD [6] [] Z Z (fun _=>AB (A3 rfl Ab Z Z Z)) ?_ | refine AH [6] Z Z (fun _=>AB (A3 rfl Ab Z Z Z)) ?_ | refine AD [6] [] Z Z (fun _=>AB (A4 rfl Ab Z Z Z)) ?_ | refine AH [6] Z Z (fun _=>AB (A4 rfl Ab Z Z Z)) ?_ | refine AD [6] [] Z Z (fun _=>AB (A2 rfl Ab Z Z Z)) ?_ | refine AH [6] Z Z (fun _=>AB (A2 rfl Ab Z Z Z)) ?_ | refine AD [6] [] Z Z (fun _=>AB (A0 rfl Ab Z Z Z)) ?_ | refine AH [6] Z Z (fun _=>AB (A0 rfl Ab Z Z Z)) ?_
    first | refine AD [32] [32] Z Z (fun _=>AB (AX Z Z Al rfl)) ?_ | refine AD [32] [32] Z Z (fun _=>AB (AU Z Z Z Al rfl)) ?_ | refine AD [32] [32] Z Z (fun _=>AB (AW Z Z (rfl) rfl Al rfl)) ?_
    first | refine AD [2] [] Z Z (fun _=>AB (A1 rfl Ab Z Z Z)) ?_ | refine AH [2] Z Z (fun _=>AB (A1 rfl Ab Z Z Z)) ?_ | refine AD [2] [] Z Z (fun _=>AB (A3 rfl Ab Z Z Z)) ?_ | refine AH [2] Z Z (fun _=>AB (A3 rfl Ab Z Z Z)) ?_ | refine AD [2] [] Z Z (fun _=>AB (A4 rfl Ab Z Z Z)) ?_ | refine AH [2] Z Z (fun _=>AB (A4 rfl Ab Z Z Z)) ?_ | refine AD [2] [] Z Z (fun _=>AB (A2 rfl Ab Z Z Z)) ?_ | refine AH [2] Z Z (fun _=>AB (A2 rfl Ab Z Z Z)) ?_ | refine AD [2] [] Z Z (fun _=>AB (A0 rfl Ab Z Z Z)) ?_ | refine AH [2] Z Z (fun _=>AB (A0 rfl Ab Z Z Z)) ?_
    first | refine AD [34] [20] Z Z (fun _=>AB (AX Z Z Al rfl)) ?_ | refine AD [34] [20] Z Z (fun _=>AB (AU Z Z Z Al rfl)) ?_ | refine AD [34] [20] Z Z (fun _=>AB (AW Z Z (rfl) rfl Al rfl)) ?_
    first | refine AD [7] [] Z Z (fun _=>AB (A9 Z Z)) ?_ | refine AH [7] Z Z (fun _=>AB (A9 Z Z)) ?_
    first | refine AD [35,36] [] Z Z (fun _=>AB (BE (k) Z Z (rfl) (C7 hkl) Try.underlying33 rfl CF rfl)) ?_ | refine AH [35,36] Z Z (fun _=>AB (BE (k) Z Z (rfl) (C7 hkl) Try.underlying33 rfl CF rfl)) ?_ | refine AD [35,36] [] Z Z (fun _=>AB (BF (k) Z Z (rfl) (C7 hkl) rfl Try.underlying33 CF rfl)) ?_ | refine AH [35,36] Z Z (fun _=>AB (BF (k) Z Z (rfl) (C7 hkl) rfl Try.underlying33 CF rfl)) ?_
    first | refine AD [37] [] Z Z (fun _=>AB (BN Z Z Ar rfl)) ?_ | refine AH [37] Z Z (fun _=>AB (BN Z Z Ar rfl)) ?_ | refine AD [37] [] Z Z (fun _=>AB (BO Z Z Ar Z Z Z)) ?_ | refine AH [37] Z Z (fun _=>AB (BO Z Z Ar Z Z Z)) ?_ | refine AD [37] [] Z Z (fun _=>AB (BP Z Z (rfl) rfl Ar rfl)) ?_ | refine AH [37] Z Z (fun _=>AB (BP Z Z (rfl) rfl Ar rfl)) ?_
    refine Bp [38] [34] [(39,_)] Z Z (fun _=>IC (HC 34 FD Z Z Z Z Z Z Z Z)) (.inr ⟨39,_,rfl,rfl,rfl,rfl,rfl⟩) Z Z Z Z Z (DM 8 Z Z Z (BI 9 Z Z ?_))
    first | refine U (J1 (acc) ([w.K[k]]) Z Z Z Z Z Z Z Z FD (by simp only [List.length_singleton];omega) Z Z Z Z) ?_ | refine U (K9 (acc) ([w.K[k]]) Z Z Z Z Z Z (fun _=>rfl) FD (by simp only [List.length_singleton];omega) Z Z Z Z) ?_
    refine AF ⟨rfl,?_⟩;refine BI 10 Z Z ?_
    first | refine J (A1 rfl Ab Z Z Z) ?_ | refine J (A3 rfl Ab Z Z Z) ?_ | refine J (A4 rfl Ab Z Z Z) ?_ | refine J (A2 rfl Ab Z Z Z) ?_ | refine J (A0 rfl Ab Z Z Z) ?_
    refine AF ⟨rfl,?_⟩;refine BI 11 Z Z (U (Bm Z Z Z Z Z Z Z sz33) (AF ⟨rfl,?_⟩));refine ED (AI (AC Z Z (J (Cm Z Z (IntWalk.i64_in _ (by omega)) rfl) (AE Z Z (AF ?_)))));exact ⟨(k+1,acc++ [w.K[k]]),⟨hkl,by show _=Ht l w.K (k+1);rw [P8 hkl h31,hacc]⟩,by show w.K.length - (k+1)<w.K.length - k;omega,BC hF [20,21,22,32,33] rfl (rfl) ⟨rfl,rfl,rfl,rfl,rfl,trivial⟩⟩
   ·refine Ai (AI (AC Z Z (J (Cm Z Z (IntWalk.i64_in _ (by omega)) rfl) (AE Z Z (AF ?_)))));exact ⟨(k+1,acc),⟨hkl,by show _=Ht l w.K (k+1);rw [O3 hkl (Classical.not_not.1 h31),hacc]⟩,by show w.K.length - (k+1)<w.K.length - k;omega,BC hF [20,21,22,32,33] rfl (rfl) ⟨rfl,rfl,rfl,rfl,rfl,trivial⟩⟩
  ·refine Dq (AG (AG ?_));have hke:k=w.K.length:=by have:=h22;omega
   have hac:acc=(CV w l).K:=by rw [hacc,hke];unfold Ht CV;rw [List.take_length]
   refine CP (ys:=acc.map Nt) 32 0 1 33 Z Z Z (Nat.le_of_eq (by rw [List.length_map])) (List.take_of_length_le (by rw [List.length_map];exact Nat.le_refl _)) Z Z Z Z Z Z ?_;rw [hac];refine AI ?_
   first | refine J (BN Z Z AK rfl) ?_ | refine J (BO Z Z AK Z Z Z) ?_ | refine J (BP Z Z (rfl) rfl AK rfl) ?_
   refine J (DE (CX (CV w l) (hw.sans l) (Nat.le_trans (List.length_filter_le _ _) (by omega))) Z Z) (AC Z Z ?_)
   first | refine J (B4 Z Z Z) ?_ | refine J (B5 Z Z Z) ?_
   first | refine J (B4 Z Z Z) ?_ | refine J (B5 Z Z Z) ?_
   refine AE Z Z (AE Z Z (AF (AG (AI (AC Z Z ?_)))))
   first | refine J (EG Z Z) ?_ | refine J (EE Z Z) ?_
   refine AF ?_
   first | refine BA rfl (fun h48=>?_) (fun h48=>?_) | refine Az rfl (fun h48=>?_) (fun h48=>?_)
   ·refine AG (AI ?_)
    first | refine J (BN Z Z AK rfl) ?_ | refine J (BO Z Z AK Z Z Z) ?_ | refine J (BP Z Z (rfl) rfl AK rfl) ?_
    refine U (Bm Z Z Z Z Z Z Z Bd) (AE Z Z (AF (Au ?_)));have hc:acyW (CV w l)=false:=by simpa using h48
    exact ⟨_,[],[],Aq rfl,rfl,rfl,by rw [h0,hc];rfl,rfl⟩
   ·refine Ai (AG (AI ?_))
    first | refine J (BN Z Z AK rfl) ?_ | refine J (BO Z Z AK Z Z Z) ?_ | refine J (BP Z Z (rfl) rfl AK rfl) ?_
    refine U (Bm Z Z Z Z Z Z Z Bd) (AE Z Z (AF (Au ?_)));have hc:acyW (CV w l)=true:=by simpa using h48
    exact ⟨_,[],[],Aq rfl,rfl,rfl,by rw [h0,if_pos hc];rfl,rfl⟩
def IA (x:St) (R:List St) (k:Nat):List St:=(R.take k).filter fun y=>!decide (y=x)
theorem RB {x:St} {R:List St} {k:Nat} (hk:k<R.length) (h:¬R[k]=x):IA x R (k+1)=IA x R k++ [R[k]]:=by
 unfold IA;rw [List.take_succ_eq_append_getElem hk,List.filter_append];simp [h]
theorem Oy {x:St} {R:List St} {k:Nat} (hk:k<R.length) (h:R[k]=x):IA x R (k+1)=IA x R k:=by
 unfold IA;rw [List.take_succ_eq_append_getElem hk,List.filter_append];simp [h]
theorem RA (x:St) (R:List St) (k:Nat):(IA x R k).length≤R.length:=by
 unfold IA;exact Nat.le_trans (List.length_filter_le _ _) (by rw [List.length_take];omega)
def H5 (x:St) (K:List Lw) (k:Nat):List Lw:=(K.take k).filter fun l=>!decide (l.f=x) && !decide (l.r=x)
theorem RD {x:St} {K:List Lw} {k:Nat} (hk:k<K.length) (h1:¬K[k].f=x) (h2:¬K[k].r=x):H5 x K (k+1)=H5 x K k++ [K[k]]:=by
 unfold H5;rw [List.take_succ_eq_append_getElem hk,List.filter_append];simp [h1,h2]
theorem KW {x:St} {K:List Lw} {k:Nat} (hk:k<K.length) (h:K[k].f=x∨K[k].r=x):H5 x K (k+1)=H5 x K k:=by
 unfold H5;rw [List.take_succ_eq_append_getElem hk,List.filter_append];rcases h with h | h<;>simp [h]
theorem RC (x:St) (K:List Lw) (k:Nat):(H5 x K k).length≤K.length:=by
 unfold H5;exact Nat.le_trans (List.length_filter_le _ _) (by rw [List.length_take];omega)
set_option maxHeartbeats 4000000 in
theorem Ln (w:Ws) (hw:BV w) (hK:w.K.length≤1000000) (x:St):B3 Try.prog 27 [.d (Jh w),.d (AZ x)] (.tup [Jh (remW w x).1,Bv (remW w x).2]):=by
 have hfew:=hw.few;refine DA Try.func27 Z Z Try.ntmps27 Z Z Z fun F hF=>?_;refine AG (AI (U (IG 20 Z Z Z Z Z Z Z) (U (HG 21 D6 Z Z Z Z) (AE Z Z (AF (AG (AG (AI ?_))))))))
 first | refine J (A1 rfl A7 Z Z Z) ?_ | refine J (A3 rfl A7 Z Z Z) ?_ | refine J (A4 rfl A7 Z Z Z) ?_ | refine J (A2 rfl A7 Z Z Z) ?_ | refine J (A0 rfl A7 Z Z Z) ?_
 first | refine J (AX Z Z AL rfl) ?_ | refine J (AU Z Z Z AL rfl) ?_ | refine J (AW Z Z (rfl) rfl AL rfl) ?_
 refine AC Z Z (J (DE (Bo w.R x (by omega)) Z Z) ?_)
 first | refine J (EG Z Z) ?_ | refine J (EE Z Z) ?_
 refine AF ?_
 first | refine BA rfl (fun h15=>?_) (fun h15=>?_) | refine Az rfl (fun h15=>?_) (fun h15=>?_)
 ·refine AG (AI ?_)
  first | refine J (BN Z Z AK rfl) ?_ | refine J (BO Z Z AK Z Z Z) ?_ | refine J (BP Z Z (rfl) rfl AK rfl) ?_
  refine U (Bm Z Z Z Z Z Z Z Bd) (AE Z Z (AF (Au ?_)));exact ⟨_,[],[],Aq rfl,rfl,rfl,by rw [rem9 h15],rfl⟩
 ·refine Ai (AG ?_);have hxR:x∈w.R:=Classical.not_not.1 h15;have h0:=rem0 hxR;refine AI (J (Ml D6 Lq Z Z Z) (U (HG 32 D6 Z Z Z Z) (U (Bm Z Z Z Z Z Z Z Bd) ?_)));refine AF (AG (AG (AI (AE Z Z (AF (B7 (D1 32 0 0 33 Bg Z Z Z Z Z Z Z (FC (α:=Nat×List St) (fun q=>⟨86,[(1,.d (AZ x)),(2,(.ptr 20 0 0)),(4,(.ptr 21 0 0)),(6,(.ptr 32 0 0)),(7,(.d (natD q.1)))],[JL 20 w,(21,[.blk 35 [.d (.sl (some true) []),.d (.sl (some true) [])]]),(32,[.blk 35 [.own 33 0 q.2.length,.d (.sl (some true) [])]]),(33,[.rowD 9 1 (q.2.map AZ)])]⟩) (fun q=>q.1≤w.R.length∧q.2=IA x w.R q.1) (fun q=>w.R.length - q.1) ((0,[])) (⟨Nat.zero_le _,rfl⟩) (BC hF [20,21,32,33] Z Z ⟨rfl,rfl,rfl,rfl,rfl,trivial⟩) ?_))))))));rintro ⟨k,acc⟩ ⟨hk,hacc⟩;dsimp only at hk hacc⊢;refine AG (AG (AI (AC Z Z ?_)))
  first | refine J (A1 rfl A7 Z Z Z) ?_ | refine J (A3 rfl A7 Z Z Z) ?_ | refine J (A4 rfl A7 Z Z Z) ?_ | refine J (A2 rfl A7 Z Z Z) ?_ | refine J (A0 rfl A7 Z Z Z) ?_
  first | refine J (AX Z Z AL rfl) ?_ | refine J (AU Z Z Z AL rfl) ?_ | refine J (AW Z Z (rfl) rfl AL rfl) ?_
  refine J (Br rfl (List.length_map ..) Try.underlying32 rfl) ?_
  first | refine J (Ed Z Z Z) ?_ | refine J (Ef Z Z Z) ?_
  refine AF ?_
  first | refine BA rfl (fun h22=>?_) (fun h22=>?_) | refine Az rfl (fun h22=>?_) (fun h22=>?_)
  ·refine Ai (AG (B7 (AG ?_)));have hkl:k<w.R.length:=HB h22;have hal:acc.length≤w.R.length:=by rw [hacc];exact RA _ _ _
   refine AI ?_
   first | refine J (A1 rfl A7 Z Z Z) ?_ | refine J (A3 rfl A7 Z Z Z) ?_ | refine J (A4 rfl A7 Z Z Z) ?_ | refine J (A2 rfl A7 Z Z Z) ?_ | refine J (A0 rfl A7 Z Z Z) ?_
   first | refine J (AX Z Z AL rfl) ?_ | refine J (AU Z Z Z AL rfl) ?_ | refine J (AW Z Z (rfl) rfl AL rfl) ?_
   refine AC Z Z ?_
   first | refine J (BE (k) Z Z (rfl) (Do hkl) Try.underlying32 rfl DO rfl) ?_ | refine J (BF (k) Z Z (rfl) (Do hkl) rfl Try.underlying32 DO rfl) ?_
   first | refine J (AX Z Z AY rfl) ?_ | refine J (AU Z Z Z AY rfl) ?_ | refine J (AW Z Z (rfl) rfl AY rfl) ?_
   refine AC Z Z ?_
   first | refine J (G3 Z Z Z) ?_ | refine J (G0 Z Z Z) ?_ | refine J (GX Z Z Z) ?_ | refine J (G4 Try.underlying9 Z Z Z) ?_ | refine J (G6 Try.underlying9 Z Z Z) ?_ | refine J (st_neqN Try.underlying9 Z Z) ?_ | refine J (GZ Try.underlying9 Z Z) ?_ | refine J (st_neqMz Try.underlying9 Z Z) ?_ | refine J (G5 Try.underlying9 Z Z Z) ?_ | refine J (st_neqFN Try.underlying9 Z Z) ?_
   refine AF ?_
   first | refine BA rfl (fun h31=>?_) (fun h31=>?_) | refine Az rfl (fun h31=>?_) (fun h31=>?_)
   ·refine Ee [[],[0],[],[2],[],[2,3,4],[2,3,4,5],[2,3,4,5,6],[0,1,2,3,4,5,6,7],[0,1,2,3,4,5,6,7,8],[0,1,2,3,4,5,6,7,8,9]] mixed rfl (DL ?_)
    first | refine AD [6] [] Z Z (fun _=>AB (A1 rfl A7 Z Z Z)) ?_ | refine AH [6] Z Z (fun _=>AB (A1 rfl A7 Z Z Z)) ?_ | refine AD [6] [] Z Z (fun _=>AB (A3 rfl A7 Z Z Z)) ?_ | refine AH [6] Z Z (fun _=>AB (A3 rfl A7 Z Z Z)) ?_ | refine AD [6] [] Z Z (fun _=>AB (A4 rfl A7 Z Z Z)) ?_ | refine AH [6] Z Z (fun _=>AB (A4 rfl A7 Z Z Z)) ?_ | refine AD [6] [] Z Z (fun _=>AB (A2 rfl A7 Z Z Z)) ?_ | refine AH [6] Z Z (fun _=>AB (A2 rfl A7 Z Z Z)) ?_ | refine AD [6] [] Z Z (fun _=>AB (A0 rfl A7 Z Z Z)) ?_ | refine AH [6] Z Z (fun _=>AB (A0 rfl A7 Z Z Z)) ?_
    first | refine AD [32] [32] Z Z (fun _=>AB (AX Z Z AL rfl)) ?_ | refine AD [32] [32] Z Z (fun _=>AB (AU Z Z Z AL rfl)) ?_ | refine AD [32] [32] Z Z (fun _=>AB (AW Z Z (rfl) rfl AL rfl)) ?_
    first | refine AD [2] [] Z Z (fun _=>AB (A1 rfl A7 Z Z Z)) ?_ | refine AH [2] Z Z (fun _=>AB (A1 rfl A7 Z Z Z)) ?_ | refine AD [2] [] Z Z (fun _=>AB (A3 rfl A7 Z Z Z)) ?_ | refine AH [2] Z Z (fun _=>AB (A3 rfl A7 Z Z Z)) ?_ | refine AD [2] [] Z Z (fun _=>AB (A4 rfl A7 Z Z Z)) ?_ | refine AH [2] Z Z (fun _=>AB (A4 rfl A7 Z Z Z)) ?_ | refine AD [2] [] Z Z (fun _=>AB (A2 rfl A7 Z Z Z)) ?_ | refine AH [2] Z Z (fun _=>AB (A2 rfl A7 Z Z Z)) ?_ | refine AD [2] [] Z Z (fun _=>AB (A0 rfl A7 Z Z Z)) ?_ | refine AH [2] Z Z (fun _=>AB (A0 rfl A7 Z Z Z)) ?_
    first | refine AD [34] [20] Z Z (fun _=>AB (AX Z Z AL rfl)) ?_ | refine AD [34] [20] Z Z (fun _=>AB (AU Z Z Z AL rfl)) ?_ | refine AD [34] [20] Z Z (fun _=>AB (AW Z Z (rfl) rfl AL rfl)) ?_
    first | refine AD [7] [] Z Z (fun _=>AB (A9 Z Z)) ?_ | refine AH [7] Z Z (fun _=>AB (A9 Z Z)) ?_
    first | refine AD [35,36] [] Z Z (fun _=>AB (BE (k) Z Z (rfl) (Do hkl) Try.underlying32 rfl DO rfl)) ?_ | refine AH [35,36] Z Z (fun _=>AB (BE (k) Z Z (rfl) (Do hkl) Try.underlying32 rfl DO rfl)) ?_ | refine AD [35,36] [] Z Z (fun _=>AB (BF (k) Z Z (rfl) (Do hkl) rfl Try.underlying32 DO rfl)) ?_ | refine AH [35,36] Z Z (fun _=>AB (BF (k) Z Z (rfl) (Do hkl) rfl Try.underlying32 DO rfl)) ?_
    first | refine AD [37] [] Z Z (fun _=>AB (AX Z Z AY rfl)) ?_ | refine AH [37] Z Z (fun _=>AB (AX Z Z AY rfl)) ?_ | refine AD [37] [] Z Z (fun _=>AB (AU Z Z Z AY rfl)) ?_ | refine AH [37] Z Z (fun _=>AB (AU Z Z Z AY rfl)) ?_ | refine AD [37] [] Z Z (fun _=>AB (AW Z Z (rfl) rfl AY rfl)) ?_ | refine AH [37] Z Z (fun _=>AB (AW Z Z (rfl) rfl AY rfl)) ?_
    refine Bp [38] [34] [(39,_)] Z Z (fun _=>IC (HC 34 Bg Z Z Z Z Z Z Z Z)) (.inr ⟨39,_,rfl,rfl,rfl,rfl,rfl⟩) Z Z Z Z Z (DM 8 Z Z Z (BI 9 Z Z ?_))
    first | refine U (J1 (acc) ([w.R[k]]) Z Z Z Z Z Z Z Z Bg (by simp only [List.length_singleton];omega) Z Z Z Z) ?_ | refine U (K9 (acc) ([w.R[k]]) Z Z Z Z Z Z (fun _=>rfl) Bg (by simp only [List.length_singleton];omega) Z Z Z Z) ?_
    refine AF ⟨rfl,?_⟩;refine BI 10 Z Z ?_
    first | refine J (A1 rfl A7 Z Z Z) ?_ | refine J (A3 rfl A7 Z Z Z) ?_ | refine J (A4 rfl A7 Z Z Z) ?_ | refine J (A2 rfl A7 Z Z Z) ?_ | refine J (A0 rfl A7 Z Z Z) ?_
    refine AF ⟨rfl,?_⟩;refine BI 11 Z Z (U (Bm Z Z Z Z Z Z Z CG) (AF ⟨rfl,?_⟩));refine ED (AI (AC Z Z (J (Cm Z Z (IntWalk.i64_in _ (by omega)) rfl) (AE Z Z (AF ?_)))));exact ⟨(k+1,acc++ [w.R[k]]),⟨hkl,by show _=IA x w.R (k+1);rw [RB hkl h31,hacc]⟩,by show w.R.length - (k+1)<w.R.length - k;omega,BC hF [20,21,32,33] rfl (rfl) ⟨rfl,rfl,rfl,rfl,rfl,trivial⟩⟩
   ·refine Ai (AI (AC Z Z (J (Cm Z Z (IntWalk.i64_in _ (by omega)) rfl) (AE Z Z (AF ?_)))));exact ⟨(k+1,acc),⟨hkl,by show _=IA x w.R (k+1);rw [Oy hkl (Classical.not_not.1 h31),hacc]⟩,by show w.R.length - (k+1)<w.R.length - k;omega,BC hF [20,21,32,33] rfl (rfl) ⟨rfl,rfl,rfl,rfl,rfl,trivial⟩⟩
  ·refine Dq (AG (AG ?_));have hke:k=w.R.length:=by have:=h22;omega
   have hac:acc=(Ev w x).R:=by rw [hacc,hke];unfold IA Ev;rw [List.take_length]
   refine CP (ys:=acc.map AZ) 32 0 0 33 Z Z Z (Nat.le_of_eq (by rw [List.length_map])) (List.take_of_length_le (by rw [List.length_map];exact Nat.le_refl _)) Z Z Z Z Z Z ?_;rw [hac];refine AI (AE Z Z (AF (B7 (D1 32 0 1 35 FD Z Z Z Z Z Z Z (FC (α:=Nat×List Lw) (fun q=>⟨86,[(1,.d (AZ x)),(2,(.ptr 20 0 0)),(4,(.ptr 21 0 0)),(6,(.ptr 32 0 0)),(8,(.d (natD q.1)))],[JL 20 w,(21,[.blk 35 [.d (.sl (some true) []),.d (.sl (some true) [])]]),(32,[.blk 35 [.d (stsD (Ev w x).R),.own 35 0 q.2.length]]),(35,[.rowD 71 3 (q.2.map Nt)])]⟩) (fun q=>q.1≤w.K.length∧q.2=H5 x w.K q.1) (fun q=>w.K.length - q.1) ((0,[])) (⟨Nat.zero_le _,rfl⟩) (BC hF [20,21,32,35] Z Z ⟨rfl,rfl,rfl,rfl,rfl,trivial⟩) ?_)))));rintro ⟨k,acc⟩ ⟨hk,hacc⟩;dsimp only at hk hacc⊢;refine AG (AG (AI (AC Z Z ?_)))
   first | refine J (A1 rfl Ab Z Z Z) ?_ | refine J (A3 rfl Ab Z Z Z) ?_ | refine J (A4 rfl Ab Z Z Z) ?_ | refine J (A2 rfl Ab Z Z Z) ?_ | refine J (A0 rfl Ab Z Z Z) ?_
   first | refine J (AX Z Z Al rfl) ?_ | refine J (AU Z Z Z Al rfl) ?_ | refine J (AW Z Z (rfl) rfl Al rfl) ?_
   refine J (Br rfl (List.length_map ..) Try.underlying33 rfl) ?_
   first | refine J (Ed Z Z Z) ?_ | refine J (Ef Z Z Z) ?_
   refine AF ?_
   first | refine BA rfl (fun h46=>?_) (fun h46=>?_) | refine Az rfl (fun h46=>?_) (fun h46=>?_)
   ·refine Ai (AG (B7 (AG ?_)));have hkl:k<w.K.length:=HB h46;have hal:acc.length≤w.K.length:=by rw [hacc];exact RC _ _ _
    refine AI ?_
    first | refine J (A1 rfl Ab Z Z Z) ?_ | refine J (A3 rfl Ab Z Z Z) ?_ | refine J (A4 rfl Ab Z Z Z) ?_ | refine J (A2 rfl Ab Z Z Z) ?_ | refine J (A0 rfl Ab Z Z Z) ?_
    first | refine J (AX Z Z Al rfl) ?_ | refine J (AU Z Z Z Al rfl) ?_ | refine J (AW Z Z (rfl) rfl Al rfl) ?_
    refine AC Z Z ?_
    first | refine J (BE (k) Z Z (rfl) (C7 hkl) Try.underlying33 rfl CF rfl) ?_ | refine J (BF (k) Z Z (rfl) (C7 hkl) rfl Try.underlying33 CF rfl) ?_
    first | refine J (A1 rfl CD Z Z Z) ?_ | refine J (A3 rfl CD Z Z Z) ?_ | refine J (A4 rfl CD Z Z Z) ?_ | refine J (A2 rfl CD Z Z Z) ?_ | refine J (A0 rfl CD Z Z Z) ?_
    first | refine J (AX Z Z AY rfl) ?_ | refine J (AU Z Z Z AY rfl) ?_ | refine J (AW Z Z (rfl) rfl AY rfl) ?_
    refine AC Z Z ?_
    first | refine J (G3 Z Z Z) ?_ | refine J (G0 Z Z Z) ?_ | refine J (GX Z Z Z) ?_ | refine J (G4 Try.underlying9 Z Z Z) ?_ | refine J (G6 Try.underlying9 Z Z Z) ?_ | refine J (st_neqN Try.underlying9 Z Z) ?_ | refine J (GZ Try.underlying9 Z Z) ?_ | refine J (st_neqMz Try.underlying9 Z Z) ?_ | refine J (G5 Try.underlying9 Z Z Z) ?_ | refine J (st_neqFN Try.underlying9 Z Z) ?_
    refine AC Z Z ?_
    first | refine JQ 57 rfl (fun h57=>?_) (fun h57=>?_) | refine ID 57 rfl (fun h57=>?_) (fun h57=>?_)
    ·refine A8 Z Z Z ?_
     first | refine J (A1 rfl Ab Z Z Z) ?_ | refine J (A3 rfl Ab Z Z Z) ?_ | refine J (A4 rfl Ab Z Z Z) ?_ | refine J (A2 rfl Ab Z Z Z) ?_ | refine J (A0 rfl Ab Z Z Z) ?_
     refine A8 Z Z Z ?_
     first | refine J (AX Z Z Al rfl) ?_ | refine J (AU Z Z Z Al rfl) ?_ | refine J (AW Z Z (rfl) rfl Al rfl) ?_
     refine A8 Z Z Z (AC Z Z (A8 Z Z Z ?_))
     first | refine J (BE (k) Z Z (rfl) (C7 hkl) Try.underlying33 rfl CF rfl) ?_ | refine J (BF (k) Z Z (rfl) (C7 hkl) rfl Try.underlying33 CF rfl) ?_
     refine A8 Z Z Z ?_
     first | refine J (A1 rfl Cg Z Z Z) ?_ | refine J (A3 rfl Cg Z Z Z) ?_ | refine J (A4 rfl Cg Z Z Z) ?_ | refine J (A2 rfl Cg Z Z Z) ?_ | refine J (A0 rfl Cg Z Z Z) ?_
     refine A8 Z Z Z ?_
     first | refine J (AX Z Z AY rfl) ?_ | refine J (AU Z Z Z AY rfl) ?_ | refine J (AW Z Z (rfl) rfl AY rfl) ?_
     refine A8 Z Z Z (AC Z Z (A8 Z Z Z ?_))
     first | refine J (G3 Z Z Z) ?_ | refine J (G0 Z Z Z) ?_ | refine J (GX Z Z Z) ?_ | refine J (G4 Try.underlying9 Z Z Z) ?_ | refine J (G6 Try.underlying9 Z Z Z) ?_ | refine J (st_neqN Try.underlying9 Z Z) ?_ | refine J (GZ Try.underlying9 Z Z) ?_ | refine J (st_neqMz Try.underlying9 Z Z) ?_ | refine J (G5 Try.underlying9 Z Z Z) ?_ | refine J (st_neqFN Try.underlying9 Z Z) ?_
     refine J (G1 Z Z Z Z) (AF ?_)
     first | refine BA rfl (fun h66=>?_) (fun h66=>?_) | refine Az rfl (fun h66=>?_) (fun h66=>?_)
     ·refine Ee [[],[0],[],[2],[],[2,3,4],[2,3,4,5],[2,3,4,5,6],[0,1,2,3,4,5,6,7],[0,1,2,3,4,5,6,7,8],[0,1,2,3,4,5,6,7,8,9]] mixed rfl (DL ?_)
      first | refine AD [6] [] Z Z (fun _=>AB (A1 rfl Ab Z Z Z)) ?_ | refine AH [6] Z Z (fun _=>AB (A1 rfl Ab Z Z Z)) ?_ | refine AD [6] [] Z Z (fun _=>AB (A3 rfl Ab Z Z Z)) ?_ | refine AH [6] Z Z (fun _=>AB (A3 rfl Ab Z Z Z)) ?_ | refine AD [6] [] Z Z (fun _=>AB (A4 rfl Ab Z Z Z)) ?_ | refine AH [6] Z Z (fun _=>AB (A4 rfl Ab Z Z Z)) ?_ | refine AD [6] [] Z Z (fun _=>AB (A2 rfl Ab Z Z Z)) ?_ | refine AH [6] Z Z (fun _=>AB (A2 rfl Ab Z Z Z)) ?_ | refine AD [6] [] Z Z (fun _=>AB (A0 rfl Ab Z Z Z)) ?_ | refine AH [6] Z Z (fun _=>AB (A0 rfl Ab Z Z Z)) ?_
      first | refine AD [67] [32] Z Z (fun _=>AB (AX Z Z Al rfl)) ?_ | refine AD [67] [32] Z Z (fun _=>AB (AU Z Z Z Al rfl)) ?_ | refine AD [67] [32] Z Z (fun _=>AB (AW Z Z (rfl) rfl Al rfl)) ?_
      first | refine AD [2] [] Z Z (fun _=>AB (A1 rfl Ab Z Z Z)) ?_ | refine AH [2] Z Z (fun _=>AB (A1 rfl Ab Z Z Z)) ?_ | refine AD [2] [] Z Z (fun _=>AB (A3 rfl Ab Z Z Z)) ?_ | refine AH [2] Z Z (fun _=>AB (A3 rfl Ab Z Z Z)) ?_ | refine AD [2] [] Z Z (fun _=>AB (A4 rfl Ab Z Z Z)) ?_ | refine AH [2] Z Z (fun _=>AB (A4 rfl Ab Z Z Z)) ?_ | refine AD [2] [] Z Z (fun _=>AB (A2 rfl Ab Z Z Z)) ?_ | refine AH [2] Z Z (fun _=>AB (A2 rfl Ab Z Z Z)) ?_ | refine AD [2] [] Z Z (fun _=>AB (A0 rfl Ab Z Z Z)) ?_ | refine AH [2] Z Z (fun _=>AB (A0 rfl Ab Z Z Z)) ?_
      first | refine AD [69] [20] Z Z (fun _=>AB (AX Z Z Al rfl)) ?_ | refine AD [69] [20] Z Z (fun _=>AB (AU Z Z Z Al rfl)) ?_ | refine AD [69] [20] Z Z (fun _=>AB (AW Z Z (rfl) rfl Al rfl)) ?_
      first | refine AD [8] [] Z Z (fun _=>AB (A9 Z Z)) ?_ | refine AH [8] Z Z (fun _=>AB (A9 Z Z)) ?_
      first | refine AD [70,71] [] Z Z (fun _=>AB (BE (k) Z Z (rfl) (C7 hkl) Try.underlying33 rfl CF rfl)) ?_ | refine AH [70,71] Z Z (fun _=>AB (BE (k) Z Z (rfl) (C7 hkl) Try.underlying33 rfl CF rfl)) ?_ | refine AD [70,71] [] Z Z (fun _=>AB (BF (k) Z Z (rfl) (C7 hkl) rfl Try.underlying33 CF rfl)) ?_ | refine AH [70,71] Z Z (fun _=>AB (BF (k) Z Z (rfl) (C7 hkl) rfl Try.underlying33 CF rfl)) ?_
      first | refine AD [72] [] Z Z (fun _=>AB (BN Z Z Ar rfl)) ?_ | refine AH [72] Z Z (fun _=>AB (BN Z Z Ar rfl)) ?_ | refine AD [72] [] Z Z (fun _=>AB (BO Z Z Ar Z Z Z)) ?_ | refine AH [72] Z Z (fun _=>AB (BO Z Z Ar Z Z Z)) ?_ | refine AD [72] [] Z Z (fun _=>AB (BP Z Z (rfl) rfl Ar rfl)) ?_ | refine AH [72] Z Z (fun _=>AB (BP Z Z (rfl) rfl Ar rfl)) ?_
      refine Bp [73] [36] [(74,_)] Z Z (fun _=>IC (HC 36 FD Z Z Z Z Z Z Z Z)) (.inr ⟨74,_,rfl,rfl,rfl,rfl,rfl⟩) Z Z Z Z Z (DM 8 Z Z Z (BI 9 Z Z ?_))
      first | refine U (J1 (acc) ([w.K[k]]) Z Z Z Z Z Z Z Z FD (by simp only [List.length_singleton];omega) Z Z Z Z) ?_ | refine U (K9 (acc) ([w.K[k]]) Z Z Z Z Z Z (fun _=>rfl) FD (by simp only [List.length_singleton];omega) Z Z Z Z) ?_
      refine AF ⟨rfl,?_⟩;refine BI 10 Z Z ?_
      first | refine J (A1 rfl Ab Z Z Z) ?_ | refine J (A3 rfl Ab Z Z Z) ?_ | refine J (A4 rfl Ab Z Z Z) ?_ | refine J (A2 rfl Ab Z Z Z) ?_ | refine J (A0 rfl Ab Z Z Z) ?_
      refine AF ⟨rfl,?_⟩;refine BI 11 Z Z (U (Bm Z Z Z Z Z Z Z sz33) (AF ⟨rfl,?_⟩));refine ED (AI (AC Z Z (J (Cm Z Z (IntWalk.i64_in _ (by omega)) rfl) (AE Z Z (AF ?_)))));exact ⟨(k+1,acc++ [w.K[k]]),⟨hkl,by show _=H5 x w.K (k+1);rw [RD hkl h57 h66,hacc]⟩,by show w.K.length - (k+1)<w.K.length - k;omega,BC hF [20,21,32,35] rfl (rfl) ⟨rfl,rfl,rfl,rfl,rfl,trivial⟩⟩
     ·refine Ai (AI (AC Z Z (J (Cm Z Z (IntWalk.i64_in _ (by omega)) rfl) (AE Z Z (AF ?_)))));exact ⟨(k+1,acc),⟨hkl,by show _=H5 x w.K (k+1);rw [KW hkl (by first | exact .inr (Classical.not_not.1 h66) | exact .inl (Classical.not_not.1 h57)),hacc]⟩,by show w.K.length - (k+1)<w.K.length - k;omega,BC hF [20,21,32,35] rfl (rfl) ⟨rfl,rfl,rfl,rfl,rfl,trivial⟩⟩
    ·refine Ay Z Z Z Z (Ay Z Z Z Z (Ay Z Z Z Z (Ay Z Z Z Z (Ay Z Z Z Z (Ay Z Z Z Z (Ay Z Z Z Z (Ay Z Z Z Z ?_)))))));refine J (Ey Z Z Z Z) (AF (D4 Z Z (Ai (AI (AC Z Z (J (Cm Z Z (IntWalk.i64_in _ (by omega)) rfl) (AE Z Z (AF ?_))))))));exact ⟨(k+1,acc),⟨hkl,by show _=H5 x w.K (k+1);rw [KW hkl (by first | exact .inr (Classical.not_not.1 h66) | exact .inl (Classical.not_not.1 h57)),hacc]⟩,by show w.K.length - (k+1)<w.K.length - k;omega,BC hF [20,21,32,35] rfl (rfl) ⟨rfl,rfl,rfl,rfl,rfl,trivial⟩⟩
   ·refine Dq (AG (AG ?_));have hke:k=w.K.length:=by have:=h46;omega
    have hac:acc=(Ev w x).K:=by rw [hacc,hke];unfold H5 Ev;rw [List.take_length]
    refine CP (ys:=acc.map Nt) 32 0 1 35 Z Z Z (Nat.le_of_eq (by rw [List.length_map])) (List.take_of_length_le (by rw [List.length_map];exact Nat.le_refl _)) Z Z Z Z Z Z ?_;rw [hac];refine AI ?_
    first | refine J (BN Z Z AK rfl) ?_ | refine J (BO Z Z AK Z Z Z) ?_ | refine J (BP Z Z (rfl) rfl AK rfl) ?_
    refine J (DE (CX (Ev w x) (hw.cut x) (Nat.le_trans (List.length_filter_le _ _) (by omega))) Z Z) (AC Z Z ?_)
    first | refine J (B4 Z Z Z) ?_ | refine J (B5 Z Z Z) ?_
    first | refine J (B4 Z Z Z) ?_ | refine J (B5 Z Z Z) ?_
    refine AE Z Z (AE Z Z (AF (AG (AI (AC Z Z ?_)))))
    first | refine J (EG Z Z) ?_ | refine J (EE Z Z) ?_
    refine AF ?_
    first | refine BA rfl (fun h83=>?_) (fun h83=>?_) | refine Az rfl (fun h83=>?_) (fun h83=>?_)
    ·refine AG (AI ?_)
     first | refine J (BN Z Z AK rfl) ?_ | refine J (BO Z Z AK Z Z Z) ?_ | refine J (BP Z Z (rfl) rfl AK rfl) ?_
     refine U (Bm Z Z Z Z Z Z Z Bd) (AE Z Z (AF (Au ?_)));have hc:acyW (Ev w x)=false:=by simpa using h83
     exact ⟨_,[],[],Aq rfl,rfl,rfl,by rw [h0,hc];rfl,rfl⟩
    ·refine Ai (AG (AI ?_))
     first | refine J (BN Z Z AK rfl) ?_ | refine J (BO Z Z AK Z Z Z) ?_ | refine J (BP Z Z (rfl) rfl AK rfl) ?_
     refine U (Bm Z Z Z Z Z Z Z Bd) (AE Z Z (AF (Au ?_)));have hc:acyW (Ev w x)=true:=by simpa using h83
     exact ⟨_,[],[],Aq rfl,rfl,rfl,by rw [h0,if_pos hc],rfl⟩
abbrev Hs.lw (o:Hs):Lw:=⟨o.x,o.l.t,o.l.r⟩
noncomputable def opW (w:Ws) (o:Hs):Ws×Int:=
 if o.k=0 then addW w o.x else if o.k=1 then lnkW w o.lw else if o.k=2 then unlW w o.lw else if o.k=3 then remW w o.x else (w,0)
theorem QG {w:Ws} {o:Hs} (h:o.k=0):opW w o=addW w o.x:=if_pos h
theorem QF {w:Ws} {o:Hs} (h:o.k=1):opW w o=lnkW w o.lw:=by unfold opW;rw [if_neg (by omega),if_pos h]
theorem QE {w:Ws} {o:Hs} (h:o.k=2):opW w o=unlW w o.lw:=by unfold opW;rw [if_neg (by omega),if_neg (by omega),if_pos h]
theorem QD {w:Ws} {o:Hs} (h:o.k=3):opW w o=remW w o.x:=by unfold opW;rw [if_neg (by omega),if_neg (by omega),if_neg (by omega),if_pos h]
theorem QC {w:Ws} {o:Hs} (h0:¬o.k=0) (h1:¬o.k=1) (h2:¬o.k=2) (h3:¬o.k=3):opW w o=(w,0):=by unfold opW;rw [if_neg h0,if_neg h1,if_neg h2,if_neg h3]
theorem C8.op {w:Ws} {n:Nat} (h:C8 w n) (o:Hs):C8 (opW w o).1 (n+1):=by
 unfold opW
 split
 ·exact h.add _
 split
 ·exact h.lnk _
 split
 ·exact (h.unl _).mono (Nat.le_succ _)
 split
 ·exact (h.rem _).mono (Nat.le_succ _)
 ·exact h.mono (Nat.le_succ _)
set_option maxHeartbeats 1000000 in
theorem Nr (w:Ws) (hw:BV w) (hK:w.K.length≤1000000) (o:Hs):B3 Try.prog 15 [.d (Jh w),.d (opD o)] (.tup [Jh (opW w o).1,Bv (opW w o).2]):=by
 refine DA Try.func15 Z Z Try.ntmps15 Z Z Z fun F hF=>?_;refine AG (AI (U (IG 20 Z Z Z Z Z Z Z) (U (IG 21 Z Z Z Z Z Z Z) (U (HG 22 D6 Z Z Z Z) (AE Z Z (AF (AG (AI ?_))))))))
 first | refine J (A1 rfl F7 Z Z Z) ?_ | refine J (A3 rfl F7 Z Z Z) ?_ | refine J (A4 rfl F7 Z Z Z) ?_ | refine J (A2 rfl F7 Z Z Z) ?_ | refine J (A0 rfl F7 Z Z Z) ?_
 first | refine J (AX Z Z AY rfl) ?_ | refine J (AU Z Z Z AY rfl) ?_ | refine J (AW Z Z (rfl) rfl AY rfl) ?_
 first | refine J (A1 rfl K6 Z Z Z) ?_ | refine J (A3 rfl K6 Z Z Z) ?_ | refine J (A4 rfl K6 Z Z Z) ?_ | refine J (A2 rfl K6 Z Z Z) ?_ | refine J (A0 rfl K6 Z Z Z) ?_
 first | refine J (A1 rfl IF Z Z Z) ?_ | refine J (A3 rfl IF Z Z Z) ?_ | refine J (A4 rfl IF Z Z Z) ?_ | refine J (A2 rfl IF Z Z Z) ?_ | refine J (A0 rfl IF Z Z Z) ?_
 first | refine J (AX Z Z Bf rfl) ?_ | refine J (AU Z Z Z Bf rfl) ?_ | refine J (AW Z Z (rfl) rfl Bf rfl) ?_
 first | refine J (A1 rfl K6 Z Z Z) ?_ | refine J (A3 rfl K6 Z Z Z) ?_ | refine J (A4 rfl K6 Z Z Z) ?_ | refine J (A2 rfl K6 Z Z Z) ?_ | refine J (A0 rfl K6 Z Z Z) ?_
 first | refine J (A1 rfl CC Z Z Z) ?_ | refine J (A3 rfl CC Z Z Z) ?_ | refine J (A4 rfl CC Z Z Z) ?_ | refine J (A2 rfl CC Z Z Z) ?_ | refine J (A0 rfl CC Z Z Z) ?_
 first | refine J (AX Z Z AY rfl) ?_ | refine J (AU Z Z Z AY rfl) ?_ | refine J (AW Z Z (rfl) rfl AY rfl) ?_
 refine J (Ml zl71 pl71 Z Z Z) (U (HG 23 zl71 Z Z Z Z) (U (Bm Z Z Z Z Z Z Z CF) (AF (AG (AG (AI ?_))))))
 first | refine J (A1 rfl Dz Z Z Z) ?_ | refine J (A3 rfl Dz Z Z Z) ?_ | refine J (A4 rfl Dz Z Z Z) ?_ | refine J (A2 rfl Dz Z Z Z) ?_ | refine J (A0 rfl Dz Z Z Z) ?_
 first | refine J (AX Z Z Bf rfl) ?_ | refine J (AU Z Z Z Bf rfl) ?_ | refine J (AW Z Z (rfl) rfl Bf rfl) ?_
 refine AF (B7 (AG (AI ?_)))
 first | refine J (EZ Z Z Z) ?_ | refine J (Ea Z Z Z) ?_ | refine J (EF Z Z Z) ?_ | refine J (E0 Try.underlying3 Z Z Z) ?_ | refine J (E5 Try.underlying3 Z Z Z) ?_ | refine J (E4 Try.underlying3 Z Z) ?_ | refine J (E9 Try.underlying3 Z Z) ?_ | refine J (E8 Try.underlying3 Z Z) ?_ | refine J (E3 Try.underlying3 Z Z Z) ?_ | refine J (E7 Try.underlying3 Z Z) ?_
 refine AE Z Z (AF ?_)
 first | refine BA rfl (fun h18=>?_) (fun h18=>?_) | refine Az rfl (fun h18=>?_) (fun h18=>?_)
 ·refine AG (AI ?_)
  first | refine J (BN Z Z AK rfl) ?_ | refine J (BO Z Z AK Z Z Z) ?_ | refine J (BP Z Z (rfl) rfl AK rfl) ?_
  first | refine J (A1 rfl F7 Z Z Z) ?_ | refine J (A3 rfl F7 Z Z Z) ?_ | refine J (A4 rfl F7 Z Z Z) ?_ | refine J (A2 rfl F7 Z Z Z) ?_ | refine J (A0 rfl F7 Z Z Z) ?_
  first | refine J (AX Z Z AY rfl) ?_ | refine J (AU Z Z Z AY rfl) ?_ | refine J (AW Z Z (rfl) rfl AY rfl) ?_
  refine J (DE (Pq w hw o.x) Z Z) ?_
  first | refine J (B4 Z Z Z) ?_ | refine J (B5 Z Z Z) ?_
  first | refine J (B4 Z Z Z) ?_ | refine J (B5 Z Z Z) ?_
  refine U (Bm Z Z Z Z Z Z Z Bd) (AE Z Z (AF (Au ?_)));exact ⟨_,[],[],Aq rfl,rfl,rfl,by rw [QG h18],rfl⟩
 ·refine AG (AI ?_)
  first | refine J (EZ Z Z Z) ?_ | refine J (Ea Z Z Z) ?_ | refine J (EF Z Z Z) ?_ | refine J (E0 Try.underlying3 Z Z Z) ?_ | refine J (E5 Try.underlying3 Z Z Z) ?_ | refine J (E4 Try.underlying3 Z Z) ?_ | refine J (E9 Try.underlying3 Z Z) ?_ | refine J (E8 Try.underlying3 Z Z) ?_ | refine J (E3 Try.underlying3 Z Z Z) ?_ | refine J (E7 Try.underlying3 Z Z) ?_
  refine AE Z Z (AF ?_)
  first | refine BA rfl (fun h26=>?_) (fun h26=>?_) | refine Az rfl (fun h26=>?_) (fun h26=>?_)
  ·refine AG (AI ?_)
   first | refine J (BN Z Z AK rfl) ?_ | refine J (BO Z Z AK Z Z Z) ?_ | refine J (BP Z Z (rfl) rfl AK rfl) ?_
   first | refine J (BN Z Z Ar rfl) ?_ | refine J (BO Z Z Ar Z Z Z) ?_ | refine J (BP Z Z (rfl) rfl Ar rfl) ?_
   refine J (DE (Kn w hw hK o.lw) Z Z) ?_
   first | refine J (B4 Z Z Z) ?_ | refine J (B5 Z Z Z) ?_
   first | refine J (B4 Z Z Z) ?_ | refine J (B5 Z Z Z) ?_
   refine U (Bm Z Z Z Z Z Z Z Bd) (AE Z Z (AF (Au ?_)));exact ⟨_,[],[],Aq rfl,rfl,rfl,by rw [QF h26],rfl⟩
  ·refine AG (AI ?_)
   first | refine J (EZ Z Z Z) ?_ | refine J (Ea Z Z Z) ?_ | refine J (EF Z Z Z) ?_ | refine J (E0 Try.underlying3 Z Z Z) ?_ | refine J (E5 Try.underlying3 Z Z Z) ?_ | refine J (E4 Try.underlying3 Z Z) ?_ | refine J (E9 Try.underlying3 Z Z) ?_ | refine J (E8 Try.underlying3 Z Z) ?_ | refine J (E3 Try.underlying3 Z Z Z) ?_ | refine J (E7 Try.underlying3 Z Z) ?_
   refine AE Z Z (AF ?_)
   first | refine BA rfl (fun h33=>?_) (fun h33=>?_) | refine Az rfl (fun h33=>?_) (fun h33=>?_)
   ·refine AG (AI ?_)
    first | refine J (BN Z Z AK rfl) ?_ | refine J (BO Z Z AK Z Z Z) ?_ | refine J (BP Z Z (rfl) rfl AK rfl) ?_
    first | refine J (BN Z Z Ar rfl) ?_ | refine J (BO Z Z Ar Z Z Z) ?_ | refine J (BP Z Z (rfl) rfl Ar rfl) ?_
    refine J (DE (Lm w hw hK o.lw) Z Z) ?_
    first | refine J (B4 Z Z Z) ?_ | refine J (B5 Z Z Z) ?_
    first | refine J (B4 Z Z Z) ?_ | refine J (B5 Z Z Z) ?_
    refine U (Bm Z Z Z Z Z Z Z Bd) (AE Z Z (AF (Au ?_)));exact ⟨_,[],[],Aq rfl,rfl,rfl,by rw [QE h33],rfl⟩
   ·refine AG (AI ?_)
    first | refine J (EZ Z Z Z) ?_ | refine J (Ea Z Z Z) ?_ | refine J (EF Z Z Z) ?_ | refine J (E0 Try.underlying3 Z Z Z) ?_ | refine J (E5 Try.underlying3 Z Z Z) ?_ | refine J (E4 Try.underlying3 Z Z) ?_ | refine J (E9 Try.underlying3 Z Z) ?_ | refine J (E8 Try.underlying3 Z Z) ?_ | refine J (E3 Try.underlying3 Z Z Z) ?_ | refine J (E7 Try.underlying3 Z Z) ?_
    refine AE Z Z (AF ?_)
    first | refine BA rfl (fun h40=>?_) (fun h40=>?_) | refine Az rfl (fun h40=>?_) (fun h40=>?_)
    ·refine AG (AI ?_)
     first | refine J (BN Z Z AK rfl) ?_ | refine J (BO Z Z AK Z Z Z) ?_ | refine J (BP Z Z (rfl) rfl AK rfl) ?_
     first | refine J (A1 rfl F7 Z Z Z) ?_ | refine J (A3 rfl F7 Z Z Z) ?_ | refine J (A4 rfl F7 Z Z Z) ?_ | refine J (A2 rfl F7 Z Z Z) ?_ | refine J (A0 rfl F7 Z Z Z) ?_
     first | refine J (AX Z Z AY rfl) ?_ | refine J (AU Z Z Z AY rfl) ?_ | refine J (AW Z Z (rfl) rfl AY rfl) ?_
     refine J (DE (Ln w hw hK o.x) Z Z) ?_
     first | refine J (B4 Z Z Z) ?_ | refine J (B5 Z Z Z) ?_
     first | refine J (B4 Z Z Z) ?_ | refine J (B5 Z Z Z) ?_
     refine U (Bm Z Z Z Z Z Z Z Bd) (AE Z Z (AF (Au ?_)));exact ⟨_,[],[],Aq rfl,rfl,rfl,by rw [QD h40],rfl⟩
    ·refine Ai (AG (AI ?_))
     first | refine J (BN Z Z AK rfl) ?_ | refine J (BO Z Z AK Z Z Z) ?_ | refine J (BP Z Z (rfl) rfl AK rfl) ?_
     refine U (Bm Z Z Z Z Z Z Z Bd) (AE Z Z (AF (Au ?_)));exact ⟨_,[],[],Aq rfl,rfl,rfl,by rw [QC h18 h26 h33 h40],rfl⟩
set_option maxHeartbeats 1000000 in
theorem do_c {M:MF} {b:Nat} {w:Ws} (h:BR M b w) (hw:BV w) (hK:w.K.length≤999999) (o:Hs):AR Try.prog 16 [.d (pD b 0),.d (opD o)] [(40,[.multi M])] fun r H'=>∃M',r= .d (Bv (opW w o).2)∧H'=[(40,[.multi M'])]∧BR M' b (opW w o).1:=by
 refine DA Try.func16 Z Z Try.ntmps16 Z Z Z fun F hF=>(AG (AI (U (IG 20 Z Z Z Z Z Z Z) (AE Z Z (AF (AG (AG (AI ?_))))))))
 first | refine J (A1 rfl Dz Z Z Z) ?_ | refine J (A3 rfl Dz Z Z Z) ?_ | refine J (A4 rfl Dz Z Z Z) ?_ | refine J (A2 rfl Dz Z Z Z) ?_ | refine J (A0 rfl Dz Z Z Z) ?_
 first | refine J (AX Z Z Bf rfl) ?_ | refine J (AU Z Z Z Bf rfl) ?_ | refine J (AW Z Z (rfl) rfl Bf rfl) ?_
 refine AF (B7 (AG (AI ?_)))
 first | refine J (EZ Z Z Z) ?_ | refine J (Ea Z Z Z) ?_ | refine J (EF Z Z Z) ?_ | refine J (E0 Try.underlying3 Z Z Z) ?_ | refine J (E5 Try.underlying3 Z Z Z) ?_ | refine J (E4 Try.underlying3 Z Z) ?_ | refine J (E9 Try.underlying3 Z Z) ?_ | refine J (E8 Try.underlying3 Z Z) ?_ | refine J (E3 Try.underlying3 Z Z Z) ?_ | refine J (E7 Try.underlying3 Z Z) ?_
 refine AE Z Z (AF ?_)
 first | refine BA rfl (fun h7=>?_) (fun h7=>?_) | refine Az rfl (fun h7=>?_) (fun h7=>?_)
 ·refine AG (AI (AC Z Z ?_))
  first | refine J (A1 rfl F7 Z Z Z) ?_ | refine J (A3 rfl F7 Z Z Z) ?_ | refine J (A4 rfl F7 Z Z Z) ?_ | refine J (A2 rfl F7 Z Z Z) ?_ | refine J (A0 rfl F7 Z Z Z) ?_
  first | refine J (AX Z Z AY rfl) ?_ | refine J (AU Z Z Z AY rfl) ?_ | refine J (AW Z Z (rfl) rfl AY rfl) ?_
  refine H7 (IZ (OF h hw o.x) rfl [40] ⟨rfl,trivial⟩ Z Z Z Z (fun r H' ⟨M,e1,e2,_⟩=>by subst e1 e2;exact ⟨rfl,rfl,rfl⟩) rfl) rfl ?_;rintro _ ⟨r,H',⟨M1,e1,e2,h1⟩,rfl⟩;subst e1 e2;refine AE Z Z (AF (Au ?_));exact ⟨_,[40],_,Aq rfl,rfl,rfl,M1,by rw [QG h7],rfl,by rw [QG h7];exact h1⟩
 ·refine AG (AI ?_)
  first | refine J (EZ Z Z Z) ?_ | refine J (Ea Z Z Z) ?_ | refine J (EF Z Z Z) ?_ | refine J (E0 Try.underlying3 Z Z Z) ?_ | refine J (E5 Try.underlying3 Z Z Z) ?_ | refine J (E4 Try.underlying3 Z Z) ?_ | refine J (E9 Try.underlying3 Z Z) ?_ | refine J (E8 Try.underlying3 Z Z) ?_ | refine J (E3 Try.underlying3 Z Z Z) ?_ | refine J (E7 Try.underlying3 Z Z) ?_
  refine AE Z Z (AF ?_)
  first | refine BA rfl (fun h13=>?_) (fun h13=>?_) | refine Az rfl (fun h13=>?_) (fun h13=>?_)
  ·refine AG (AI (AC Z Z ?_))
   first | refine J (A1 rfl F7 Z Z Z) ?_ | refine J (A3 rfl F7 Z Z Z) ?_ | refine J (A4 rfl F7 Z Z Z) ?_ | refine J (A2 rfl F7 Z Z Z) ?_ | refine J (A0 rfl F7 Z Z Z) ?_
   first | refine J (AX Z Z AY rfl) ?_ | refine J (AU Z Z Z AY rfl) ?_ | refine J (AW Z Z (rfl) rfl AY rfl) ?_
   first | refine J (A1 rfl K6 Z Z Z) ?_ | refine J (A3 rfl K6 Z Z Z) ?_ | refine J (A4 rfl K6 Z Z Z) ?_ | refine J (A2 rfl K6 Z Z Z) ?_ | refine J (A0 rfl K6 Z Z Z) ?_
   first | refine J (BN Z Z As rfl) ?_ | refine J (BO Z Z As Z Z Z) ?_ | refine J (BP Z Z (rfl) rfl As rfl) ?_
   refine H7 (IZ (Ku h hw hK o.lw) rfl [40] ⟨rfl,trivial⟩ Z Z Z Z (fun r H' ⟨M,e1,e2,_⟩=>by subst e1 e2;exact ⟨rfl,rfl,rfl⟩) rfl) rfl ?_;rintro _ ⟨r,H',⟨M1,e1,e2,h1⟩,rfl⟩;subst e1 e2;refine AE Z Z (AF (Au ?_));exact ⟨_,[40],_,Aq rfl,rfl,rfl,M1,by rw [QF h13],rfl,by rw [QF h13];exact h1⟩
  ·refine AG (AI ?_)
   first | refine J (EZ Z Z Z) ?_ | refine J (Ea Z Z Z) ?_ | refine J (EF Z Z Z) ?_ | refine J (E0 Try.underlying3 Z Z Z) ?_ | refine J (E5 Try.underlying3 Z Z Z) ?_ | refine J (E4 Try.underlying3 Z Z) ?_ | refine J (E9 Try.underlying3 Z Z) ?_ | refine J (E8 Try.underlying3 Z Z) ?_ | refine J (E3 Try.underlying3 Z Z Z) ?_ | refine J (E7 Try.underlying3 Z Z) ?_
   refine AE Z Z (AF ?_)
   first | refine BA rfl (fun h21=>?_) (fun h21=>?_) | refine Az rfl (fun h21=>?_) (fun h21=>?_)
   ·refine AG (AI (AC Z Z ?_))
    first | refine J (A1 rfl F7 Z Z Z) ?_ | refine J (A3 rfl F7 Z Z Z) ?_ | refine J (A4 rfl F7 Z Z Z) ?_ | refine J (A2 rfl F7 Z Z Z) ?_ | refine J (A0 rfl F7 Z Z Z) ?_
    first | refine J (AX Z Z AY rfl) ?_ | refine J (AU Z Z Z AY rfl) ?_ | refine J (AW Z Z (rfl) rfl AY rfl) ?_
    first | refine J (A1 rfl K6 Z Z Z) ?_ | refine J (A3 rfl K6 Z Z Z) ?_ | refine J (A4 rfl K6 Z Z Z) ?_ | refine J (A2 rfl K6 Z Z Z) ?_ | refine J (A0 rfl K6 Z Z Z) ?_
    first | refine J (BN Z Z As rfl) ?_ | refine J (BO Z Z As Z Z Z) ?_ | refine J (BP Z Z (rfl) rfl As rfl) ?_
    refine H7 (IZ (PT h hw (by omega) o.lw) rfl [40] ⟨rfl,trivial⟩ Z Z Z Z (fun r H' ⟨M,e1,e2,_⟩=>by subst e1 e2;exact ⟨rfl,rfl,rfl⟩) rfl) rfl ?_;rintro _ ⟨r,H',⟨M1,e1,e2,h1⟩,rfl⟩;subst e1 e2;refine AE Z Z (AF (Au ?_));exact ⟨_,[40],_,Aq rfl,rfl,rfl,M1,by rw [QE h21],rfl,by rw [QE h21];exact h1⟩
   ·refine AG (AI ?_)
    first | refine J (EZ Z Z Z) ?_ | refine J (Ea Z Z Z) ?_ | refine J (EF Z Z Z) ?_ | refine J (E0 Try.underlying3 Z Z Z) ?_ | refine J (E5 Try.underlying3 Z Z Z) ?_ | refine J (E4 Try.underlying3 Z Z) ?_ | refine J (E9 Try.underlying3 Z Z) ?_ | refine J (E8 Try.underlying3 Z Z) ?_ | refine J (E3 Try.underlying3 Z Z Z) ?_ | refine J (E7 Try.underlying3 Z Z) ?_
    refine AE Z Z (AF ?_)
    first | refine BA rfl (fun h29=>?_) (fun h29=>?_) | refine Az rfl (fun h29=>?_) (fun h29=>?_)
    ·refine AG (AI (AC Z Z ?_))
     first | refine J (A1 rfl F7 Z Z Z) ?_ | refine J (A3 rfl F7 Z Z Z) ?_ | refine J (A4 rfl F7 Z Z Z) ?_ | refine J (A2 rfl F7 Z Z Z) ?_ | refine J (A0 rfl F7 Z Z Z) ?_
     first | refine J (AX Z Z AY rfl) ?_ | refine J (AU Z Z Z AY rfl) ?_ | refine J (AW Z Z (rfl) rfl AY rfl) ?_
     refine H7 (IZ (Pp h hw (by omega) o.x) rfl [40] ⟨rfl,trivial⟩ Z Z Z Z (fun r H' ⟨M,e1,e2,_⟩=>by subst e1 e2;exact ⟨rfl,rfl,rfl⟩) rfl) rfl ?_;rintro _ ⟨r,H',⟨M1,e1,e2,h1⟩,rfl⟩;subst e1 e2;refine AE Z Z (AF (Au ?_));exact ⟨_,[40],_,Aq rfl,rfl,rfl,M1,by rw [QD h29],rfl,by rw [QD h29];exact h1⟩
    ·refine Ai (AG (AI (AE Z Z (AF (Au ?_)))));exact ⟨_,[40],_,Aq rfl,rfl,rfl,M,by rw [QC h7 h13 h21 h29],rfl,by rw [QC h7 h13 h21 h29];exact h⟩
abbrev NJ (l:List Hs):D:= .sl none (l.map opD)
theorem few_p (l:List Hs) (hl:l.length≤140737488355328):B3 Try.prog 14 [.d (NJ l)] (NJ (l.take 24)):=by
 refine DA Try.func14 Z Z Try.ntmps14 Z Z Z fun F hF=>?_;refine AG (AI (AE Z Z (AF (AG (AI (AC Z Z (AC Z Z (J (Br rfl (List.length_map ..) Try.underlying30 rfl) ?_))))))))
 obtain ⟨m,hm,hm1,hm2⟩:∃m:Nat,(if (24:Int)<(l.length:Int) then (24:Int) else (l.length:Int))=(m:Int)∧m≤l.length∧l.take m=l.take 24:=⟨min l.length 24,by omega,by omega,by rw [Nat.min_comm,←List.take_take,List.take_length]⟩
 refine J (st_min Z Z (hm) rfl) ?_
 first | refine J (Mu (m) Z Z Z (by rw [List.length_map];exact hm1) Try.underlying30 G8 (by simp [D.cells,byteD]) (List.map_take.symm) rfl) ?_ | refine J (Jk (m) Z Z Z (by rw [List.length_map];exact hm1) rfl Try.underlying30 G8 rfl) ?_
 refine AE Z Z (AF (Au ?_));exact ⟨_,[],[],Aq rfl,rfl,rfl,by rw [hm2],rfl⟩
theorem Cx {l:List Grp} {k:Nat} (h:k<l.length):(l.map Hy)[k]?=some (Hy l[k]):=by
 rw [List.getElem?_map,List.getElem?_eq_getElem h];rfl
set_option maxHeartbeats 4000000 in
theorem P6 {M:MF} {b:Nat} {w:Ws} (h:BR M b w) (hw:BV w) (hac:acyW w=true) (hK:w.K.length≤1000000) (hg1:(groupsW w).length≤1000000) (hg2:∀g∈groupsW w,g.m.length≤1000000∧g.a.length≤1000000):AR Try.prog 17 [.d (pD b 0),.d (Jh w)] [(40,[.multi M])] fun r H'=>r= .d (Ak true)∧H'=[(40,[.multi M])]:=by
 have hgd:gD w=DJ (groupsW w):=if_pos hac
 obtain ⟨G,hG⟩:∃G,groupsW w=G:=⟨_,rfl⟩
 rw [hG] at hgd hg1 hg2;refine DA Try.func17 Z Z Try.ntmps17 Z Z Z fun F hF=>(AG (AI (U (IG 20 Z Z Z Z Z Z Z) (AE Z Z ?_))));refine AF (AG (AI (AC Z Z (U (GD (MZ h hw hK) rfl [40] ⟨rfl,trivial⟩ Z Z Z Z Z Z Z Z Z) (AE Z Z (AF (AG (AI ?_))))))))
 first | refine J (BN Z Z AK rfl) ?_ | refine J (BO Z Z AK Z Z Z) ?_ | refine J (BP Z Z (rfl) rfl AK rfl) ?_
 refine J (DE (CX w hw (by omega)) Z Z) (AC Z Z ?_)
 first | refine J (B4 Z Z Z) ?_ | refine J (B5 Z Z Z) ?_
 first | refine J (B4 Z Z Z) ?_ | refine J (B5 Z Z Z) ?_
 refine AE Z Z (AE Z Z (AF (AG (AG ?_))));rw [hgd,hac,hG];refine Ee [[],[0],[0,1],[0,1,2],[0,1,2,3],[0,1,2],[0,1,2,5],[0,1,2,3,4,5,6],[0,1,2,3,4,5,6,7],[0,1,2,3,4,5,6,7,8],[0,1,2,3,4,5,6,7,8,9],[0,1,2,3,4,5,6,7,8,9,10],[0,1,2,3,4,5,6,7,8,9],[0,1,2,3,4,5,6,7,8,9,12],[0,1,2,3,4,5,6,7,8,9,12,13],[0,1,2,3,4,5,6,7,8,9,10,11,12,13,14],[0,1,2,3,4,5,6,7,8,9,10,11,12,13,14,15]] mixed rfl (BI 1 Z Z (AC Z Z (AF ⟨rfl,?_⟩)));refine BI 2 Z Z ?_
 first | refine J (EG Z Z) ?_ | refine J (EE Z Z) ?_
 refine AF ⟨rfl,?_⟩;refine BI 3 Z Z (AC Z Z (CZ 19 rfl (rfl) (AF ⟨rfl,?_⟩)));refine DL ?_
 first | refine AD [5,19] [] Z Z (fun _=>Aw Z Z Z (A9 Z Z)) ?_ | refine AH [5,19] Z Z (fun _=>Aw Z Z Z (A9 Z Z)) ?_
 first | refine AD [20,19] [] Z Z (fun _=>Aw Z Z Z (Br rfl (List.length_map ..) Try.underlying47 rfl)) ?_ | refine AH [20,19] Z Z (fun _=>Aw Z Z Z (Br rfl (List.length_map ..) Try.underlying47 rfl)) ?_
 first | refine AD [6,19] [] Z Z (fun _=>Aw Z Z Z (A9 Z Z)) ?_ | refine AH [6,19] Z Z (fun _=>Aw Z Z Z (A9 Z Z)) ?_
 first | refine AD [22,19] [] Z Z (fun _=>Aw Z Z Z (Br rfl (List.length_map ..) Try.underlying73 rfl)) ?_ | refine AH [22,19] Z Z (fun _=>Aw Z Z Z (Br rfl (List.length_map ..) Try.underlying73 rfl)) ?_
 refine DM 7 Z Z Z (BI 8 Z Z (A8 Z Z Z ?_))
 first | refine J (G3 Z Z Z) ?_ | refine J (G0 Z Z Z) ?_ | refine J (GX Z Z Z) ?_ | refine J (G4 Try.underlying3 Z Z Z) ?_ | refine J (G6 Try.underlying3 Z Z Z) ?_ | refine J (st_neqN Try.underlying3 Z Z) ?_ | refine J (GZ Try.underlying3 Z Z) ?_ | refine J (st_neqMz Try.underlying3 Z Z) ?_ | refine J (G5 Try.underlying3 Z Z Z) ?_ | refine J (st_neqFN Try.underlying3 Z Z) ?_
 refine AF ⟨rfl,?_⟩;refine BI 9 Z Z (J (Ey Z Z Z Z) (AF ⟨rfl,?_⟩));refine BI 10 Z Z (AC Z Z (CZ 26 rfl (by simp) (AF ⟨rfl,?_⟩)));refine DL ?_
 first | refine AD [0,26] [] Z Z (fun _=>Aw Z Z Z (A9 Z Z)) ?_ | refine AH [0,26] Z Z (fun _=>Aw Z Z Z (A9 Z Z)) ?_
 refine Bp [27,26] [40] [(28,_)] Z Z (fun _=>Qm Z Z Z (GD (len_c h hw) rfl [40] ⟨rfl,trivial⟩ Z Z Z Z Z Z Z Z Z)) (.inr ⟨28,_,rfl,rfl,rfl,rfl,rfl⟩) Z Z Z Z Z ?_
 first | refine AD [3,26] [] Z Z (fun _=>Aw Z Z Z (A1 rfl A7 Z Z Z)) ?_ | refine AH [3,26] Z Z (fun _=>Aw Z Z Z (A1 rfl A7 Z Z Z)) ?_ | refine AD [3,26] [] Z Z (fun _=>Aw Z Z Z (A3 rfl A7 Z Z Z)) ?_ | refine AH [3,26] Z Z (fun _=>Aw Z Z Z (A3 rfl A7 Z Z Z)) ?_ | refine AD [3,26] [] Z Z (fun _=>Aw Z Z Z (A4 rfl A7 Z Z Z)) ?_ | refine AH [3,26] Z Z (fun _=>Aw Z Z Z (A4 rfl A7 Z Z Z)) ?_ | refine AD [3,26] [] Z Z (fun _=>Aw Z Z Z (A2 rfl A7 Z Z Z)) ?_ | refine AH [3,26] Z Z (fun _=>Aw Z Z Z (A2 rfl A7 Z Z Z)) ?_ | refine AD [3,26] [] Z Z (fun _=>Aw Z Z Z (A0 rfl A7 Z Z Z)) ?_ | refine AH [3,26] Z Z (fun _=>Aw Z Z Z (A0 rfl A7 Z Z Z)) ?_
 first | refine AD [29,26] [20] Z Z (fun _=>Aw Z Z Z (AX Z Z AL rfl)) ?_ | refine AD [29,26] [20] Z Z (fun _=>Aw Z Z Z (AU Z Z Z AL rfl)) ?_ | refine AD [29,26] [20] Z Z (fun _=>Aw Z Z Z (AW Z Z (rfl) rfl AL rfl)) ?_
 first | refine AD [30,26] [] Z Z (fun _=>Aw Z Z Z (Br rfl (List.length_map ..) Try.underlying32 rfl)) ?_ | refine AH [30,26] Z Z (fun _=>Aw Z Z Z (Br rfl (List.length_map ..) Try.underlying32 rfl)) ?_
 refine DM 15 Z Z Z (BI 16 Z Z (A8 Z Z Z ?_))
 first | refine J (G3 Z Z Z) ?_ | refine J (G0 Z Z Z) ?_ | refine J (GX Z Z Z) ?_ | refine J (G4 Try.underlying3 Z Z Z) ?_ | refine J (G6 Try.underlying3 Z Z Z) ?_ | refine J (st_neqN Try.underlying3 Z Z) ?_ | refine J (GZ Try.underlying3 Z Z) ?_ | refine J (st_neqMz Try.underlying3 Z Z) ?_ | refine J (G5 Try.underlying3 Z Z Z) ?_ | refine J (st_neqFN Try.underlying3 Z Z) ?_
 refine AF ⟨rfl,?_⟩;refine BI 17 Z Z (J (Ey Z Z Z Z) (AF ⟨rfl,?_⟩));refine ED ?_;refine D4 rfl (by simp) (Ai (AG (AG (AI (AE Z Z (AF (B7 (FC (α:=Nat) (fun k=>⟨94,[(5,(.d (DJ G))),(6,(.d (DJ G))),(8,(.d (natD k)))],[(40,[.multi M])]⟩) (fun k=>k≤G.length) (fun k=>G.length - k) (0) (Nat.zero_le _) (BC hF [40] Z Z ⟨rfl,rfl,rfl,trivial⟩) ?_))))))));rintro k hk;refine AG (AG (AI (AC Z Z (AC Z Z (J (Br rfl (List.length_map ..) Try.underlying47 rfl) ?_)))))
 first | refine J (Ed Z Z Z) ?_ | refine J (Ef Z Z Z) ?_
 refine AF ?_
 first | refine BA rfl (fun h37=>?_) (fun h37=>?_) | refine Az rfl (fun h37=>?_) (fun h37=>?_)
 ·refine Ai (AG (B7 (AG (AG ?_))));have hkl:k<G.length:=HB h37;obtain ⟨hm1,hm2⟩:=hg2 _ (List.getElem_mem hkl);refine Ee [[],[],[0,1],[0,1,2],[0,1,2,3],[],[],[5,6],[5,6,7],[5,6,7,8],[0,1,2,3,4,5,6,7,8,9],[0,1,2,3,4,5,6,7,8,9,10],[0,1,2,3,4,5,6,7,8,9,10,11],[0,1,2,3,4,5,6,7,8,9,10,11,12],[0,1,2,3,4,5,6,7,8,9,10,11,12],[0,1,2,3,4,5,6,7,8,9,10,11,12,13,14],[0,1,2,3,4,5,6,7,8,9,10,11,12,13,14,15],[0,1,2,3,4,5,6,7,8,9,10,11,12,13,14,15,16],[0,1,2,3,4,5,6,7,8,9,10,11,12,13,14,15,16,17],[0,1,2,3,4,5,6,7,8,9,10,11,12],[0,1,2,3,4,5,6,7,8,9,10,11,12],[0,1,2,3,4,5,6,7,8,9,10,11,12,19,20],[0,1,2,3,4,5,6,7,8,9,10,11,12,19,20,21],[0,1,2,3,4,5,6,7,8,9,10,11,12,19,20,21,22],[0,1,2,3,4,5,6,7,8,9,10,11,12,19,20,21,22,23],[0,1,2,3,4,5,6,7,8,9,10,11,12,13,14,15,16,17,18,19,20,21,22,23,24],[0,1,2,3,4,5,6,7,8,9,10,11,12,13,14,15,16,17,18,19,20,21,22,23,24,25]] mixed rfl (DL ?_)
  first | refine AD [5] [] Z Z (fun _=>AB (A9 Z Z)) ?_ | refine AH [5] Z Z (fun _=>AB (A9 Z Z)) ?_
  first | refine AD [8] [] Z Z (fun _=>AB (A9 Z Z)) ?_ | refine AH [8] Z Z (fun _=>AB (A9 Z Z)) ?_
  first | refine AD [40,41] [] Z Z (fun _=>AB (BE (k) Z Z (rfl) (Cx hkl) Try.underlying47 rfl DV rfl)) ?_ | refine AH [40,41] Z Z (fun _=>AB (BE (k) Z Z (rfl) (Cx hkl) Try.underlying47 rfl DV rfl)) ?_ | refine AD [40,41] [] Z Z (fun _=>AB (BF (k) Z Z (rfl) (Cx hkl) rfl Try.underlying47 DV rfl)) ?_ | refine AH [40,41] Z Z (fun _=>AB (BF (k) Z Z (rfl) (Cx hkl) rfl Try.underlying47 DV rfl)) ?_
  first | refine AD [42] [] Z Z (fun _=>AB (A1 rfl K7 Z Z Z)) ?_ | refine AH [42] Z Z (fun _=>AB (A1 rfl K7 Z Z Z)) ?_ | refine AD [42] [] Z Z (fun _=>AB (A3 rfl K7 Z Z Z)) ?_ | refine AH [42] Z Z (fun _=>AB (A3 rfl K7 Z Z Z)) ?_ | refine AD [42] [] Z Z (fun _=>AB (A4 rfl K7 Z Z Z)) ?_ | refine AH [42] Z Z (fun _=>AB (A4 rfl K7 Z Z Z)) ?_ | refine AD [42] [] Z Z (fun _=>AB (A2 rfl K7 Z Z Z)) ?_ | refine AH [42] Z Z (fun _=>AB (A2 rfl K7 Z Z Z)) ?_ | refine AD [42] [] Z Z (fun _=>AB (A0 rfl K7 Z Z Z)) ?_ | refine AH [42] Z Z (fun _=>AB (A0 rfl K7 Z Z Z)) ?_
  first | refine AD [43] [] Z Z (fun _=>AB (AX Z Z AL rfl)) ?_ | refine AH [43] Z Z (fun _=>AB (AX Z Z AL rfl)) ?_ | refine AD [43] [] Z Z (fun _=>AB (AU Z Z Z AL rfl)) ?_ | refine AH [43] Z Z (fun _=>AB (AU Z Z Z AL rfl)) ?_ | refine AD [43] [] Z Z (fun _=>AB (AW Z Z (rfl) rfl AL rfl)) ?_ | refine AH [43] Z Z (fun _=>AB (AW Z Z (rfl) rfl AL rfl)) ?_
  first | refine AD [6] [] Z Z (fun _=>AB (A9 Z Z)) ?_ | refine AH [6] Z Z (fun _=>AB (A9 Z Z)) ?_
  first | refine AD [8] [] Z Z (fun _=>AB (A9 Z Z)) ?_ | refine AH [8] Z Z (fun _=>AB (A9 Z Z)) ?_
  first | refine AD [45,46] [] Z Z (fun _=>AB (BE (k) Z Z (rfl) (Cx hkl) Try.underlying73 rfl HJ rfl)) ?_ | refine AH [45,46] Z Z (fun _=>AB (BE (k) Z Z (rfl) (Cx hkl) Try.underlying73 rfl HJ rfl)) ?_ | refine AD [45,46] [] Z Z (fun _=>AB (BF (k) Z Z (rfl) (Cx hkl) rfl Try.underlying73 HJ rfl)) ?_ | refine AH [45,46] Z Z (fun _=>AB (BF (k) Z Z (rfl) (Cx hkl) rfl Try.underlying73 HJ rfl)) ?_
  first | refine AD [47] [] Z Z (fun _=>AB (A1 rfl Dy Z Z Z)) ?_ | refine AH [47] Z Z (fun _=>AB (A1 rfl Dy Z Z Z)) ?_ | refine AD [47] [] Z Z (fun _=>AB (A3 rfl Dy Z Z Z)) ?_ | refine AH [47] Z Z (fun _=>AB (A3 rfl Dy Z Z Z)) ?_ | refine AD [47] [] Z Z (fun _=>AB (A4 rfl Dy Z Z Z)) ?_ | refine AH [47] Z Z (fun _=>AB (A4 rfl Dy Z Z Z)) ?_ | refine AD [47] [] Z Z (fun _=>AB (A2 rfl Dy Z Z Z)) ?_ | refine AH [47] Z Z (fun _=>AB (A2 rfl Dy Z Z Z)) ?_ | refine AD [47] [] Z Z (fun _=>AB (A0 rfl Dy Z Z Z)) ?_ | refine AH [47] Z Z (fun _=>AB (A0 rfl Dy Z Z Z)) ?_
  first | refine AD [48] [] Z Z (fun _=>AB (AX Z Z AL rfl)) ?_ | refine AH [48] Z Z (fun _=>AB (AX Z Z AL rfl)) ?_ | refine AD [48] [] Z Z (fun _=>AB (AU Z Z Z AL rfl)) ?_ | refine AH [48] Z Z (fun _=>AB (AU Z Z Z AL rfl)) ?_ | refine AD [48] [] Z Z (fun _=>AB (AW Z Z (rfl) rfl AL rfl)) ?_ | refine AH [48] Z Z (fun _=>AB (AW Z Z (rfl) rfl AL rfl)) ?_
  refine DM 10 Z Z Z (BI 11 Z Z (J (DE (iOq G[k].m G[k].m hm1) Z Z) (AF ⟨rfl,?_⟩)));refine BI 12 Z Z ?_
  first | refine J (EG Z Z) ?_ | refine J (EE Z Z) ?_
  refine AF ⟨rfl,?_⟩;refine BI 13 Z Z (AC Z Z (CZ 52 rfl (by simp) (AF ⟨rfl,?_⟩)));refine DL ?_
  first | refine AD [5,52] [] Z Z (fun _=>Aw Z Z Z (A9 Z Z)) ?_ | refine AH [5,52] Z Z (fun _=>Aw Z Z Z (A9 Z Z)) ?_
  first | refine AD [8,52] [] Z Z (fun _=>Aw Z Z Z (A9 Z Z)) ?_ | refine AH [8,52] Z Z (fun _=>Aw Z Z Z (A9 Z Z)) ?_
  first | refine AD [53,54,52] [] Z Z (fun _=>Aw Z Z Z (BE (k) Z Z (rfl) (Cx hkl) Try.underlying47 rfl DV rfl)) ?_ | refine AH [53,54,52] Z Z (fun _=>Aw Z Z Z (BE (k) Z Z (rfl) (Cx hkl) Try.underlying47 rfl DV rfl)) ?_ | refine AD [53,54,52] [] Z Z (fun _=>Aw Z Z Z (BF (k) Z Z (rfl) (Cx hkl) rfl Try.underlying47 DV rfl)) ?_ | refine AH [53,54,52] Z Z (fun _=>Aw Z Z Z (BF (k) Z Z (rfl) (Cx hkl) rfl Try.underlying47 DV rfl)) ?_
  first | refine AD [55,52] [] Z Z (fun _=>Aw Z Z Z (A1 rfl Cf Z Z Z)) ?_ | refine AH [55,52] Z Z (fun _=>Aw Z Z Z (A1 rfl Cf Z Z Z)) ?_ | refine AD [55,52] [] Z Z (fun _=>Aw Z Z Z (A3 rfl Cf Z Z Z)) ?_ | refine AH [55,52] Z Z (fun _=>Aw Z Z Z (A3 rfl Cf Z Z Z)) ?_ | refine AD [55,52] [] Z Z (fun _=>Aw Z Z Z (A4 rfl Cf Z Z Z)) ?_ | refine AH [55,52] Z Z (fun _=>Aw Z Z Z (A4 rfl Cf Z Z Z)) ?_ | refine AD [55,52] [] Z Z (fun _=>Aw Z Z Z (A2 rfl Cf Z Z Z)) ?_ | refine AH [55,52] Z Z (fun _=>Aw Z Z Z (A2 rfl Cf Z Z Z)) ?_ | refine AD [55,52] [] Z Z (fun _=>Aw Z Z Z (A0 rfl Cf Z Z Z)) ?_ | refine AH [55,52] Z Z (fun _=>Aw Z Z Z (A0 rfl Cf Z Z Z)) ?_
  first | refine AD [56,52] [] Z Z (fun _=>Aw Z Z Z (AX Z Z Ae rfl)) ?_ | refine AH [56,52] Z Z (fun _=>Aw Z Z Z (AX Z Z Ae rfl)) ?_ | refine AD [56,52] [] Z Z (fun _=>Aw Z Z Z (AU Z Z Z Ae rfl)) ?_ | refine AH [56,52] Z Z (fun _=>Aw Z Z Z (AU Z Z Z Ae rfl)) ?_ | refine AD [56,52] [] Z Z (fun _=>Aw Z Z Z (AW Z Z (rfl) rfl Ae rfl)) ?_ | refine AH [56,52] Z Z (fun _=>Aw Z Z Z (AW Z Z (rfl) rfl Ae rfl)) ?_
  first | refine AD [57,52] [] Z Z (fun _=>Aw Z Z Z (Br rfl (List.length_map ..) Try.underlying49 rfl)) ?_ | refine AH [57,52] Z Z (fun _=>Aw Z Z Z (Br rfl (List.length_map ..) Try.underlying49 rfl)) ?_
  first | refine AD [6,52] [] Z Z (fun _=>Aw Z Z Z (A9 Z Z)) ?_ | refine AH [6,52] Z Z (fun _=>Aw Z Z Z (A9 Z Z)) ?_
  first | refine AD [8,52] [] Z Z (fun _=>Aw Z Z Z (A9 Z Z)) ?_ | refine AH [8,52] Z Z (fun _=>Aw Z Z Z (A9 Z Z)) ?_
  first | refine AD [59,60,52] [] Z Z (fun _=>Aw Z Z Z (BE (k) Z Z (rfl) (Cx hkl) Try.underlying73 rfl HJ rfl)) ?_ | refine AH [59,60,52] Z Z (fun _=>Aw Z Z Z (BE (k) Z Z (rfl) (Cx hkl) Try.underlying73 rfl HJ rfl)) ?_ | refine AD [59,60,52] [] Z Z (fun _=>Aw Z Z Z (BF (k) Z Z (rfl) (Cx hkl) rfl Try.underlying73 HJ rfl)) ?_ | refine AH [59,60,52] Z Z (fun _=>Aw Z Z Z (BF (k) Z Z (rfl) (Cx hkl) rfl Try.underlying73 HJ rfl)) ?_
  first | refine AD [61,52] [] Z Z (fun _=>Aw Z Z Z (A1 rfl G2 Z Z Z)) ?_ | refine AH [61,52] Z Z (fun _=>Aw Z Z Z (A1 rfl G2 Z Z Z)) ?_ | refine AD [61,52] [] Z Z (fun _=>Aw Z Z Z (A3 rfl G2 Z Z Z)) ?_ | refine AH [61,52] Z Z (fun _=>Aw Z Z Z (A3 rfl G2 Z Z Z)) ?_ | refine AD [61,52] [] Z Z (fun _=>Aw Z Z Z (A4 rfl G2 Z Z Z)) ?_ | refine AH [61,52] Z Z (fun _=>Aw Z Z Z (A4 rfl G2 Z Z Z)) ?_ | refine AD [61,52] [] Z Z (fun _=>Aw Z Z Z (A2 rfl G2 Z Z Z)) ?_ | refine AH [61,52] Z Z (fun _=>Aw Z Z Z (A2 rfl G2 Z Z Z)) ?_ | refine AD [61,52] [] Z Z (fun _=>Aw Z Z Z (A0 rfl G2 Z Z Z)) ?_ | refine AH [61,52] Z Z (fun _=>Aw Z Z Z (A0 rfl G2 Z Z Z)) ?_
  first | refine AD [62,52] [] Z Z (fun _=>Aw Z Z Z (AX Z Z Ae rfl)) ?_ | refine AH [62,52] Z Z (fun _=>Aw Z Z Z (AX Z Z Ae rfl)) ?_ | refine AD [62,52] [] Z Z (fun _=>Aw Z Z Z (AU Z Z Z Ae rfl)) ?_ | refine AH [62,52] Z Z (fun _=>Aw Z Z Z (AU Z Z Z Ae rfl)) ?_ | refine AD [62,52] [] Z Z (fun _=>Aw Z Z Z (AW Z Z (rfl) rfl Ae rfl)) ?_ | refine AH [62,52] Z Z (fun _=>Aw Z Z Z (AW Z Z (rfl) rfl Ae rfl)) ?_
  first | refine AD [63,52] [] Z Z (fun _=>Aw Z Z Z (Br rfl (List.length_map ..) Try.underlying49 rfl)) ?_ | refine AH [63,52] Z Z (fun _=>Aw Z Z Z (Br rfl (List.length_map ..) Try.underlying49 rfl)) ?_
  refine DM 25 Z Z Z (BI 26 Z Z (A8 Z Z Z ?_))
  first | refine J (G3 Z Z Z) ?_ | refine J (G0 Z Z Z) ?_ | refine J (GX Z Z Z) ?_ | refine J (G4 Try.underlying3 Z Z Z) ?_ | refine J (G6 Try.underlying3 Z Z Z) ?_ | refine J (st_neqN Try.underlying3 Z Z) ?_ | refine J (GZ Try.underlying3 Z Z) ?_ | refine J (st_neqMz Try.underlying3 Z Z) ?_ | refine J (G5 Try.underlying3 Z Z Z) ?_ | refine J (st_neqFN Try.underlying3 Z Z) ?_
  refine AF ⟨rfl,?_⟩;refine BI 27 Z Z (J (Ey Z Z Z Z) (AF ⟨rfl,?_⟩));refine ED (D4 rfl (by simp) (Ai (AG (AI (AE Z Z (AF (B7 (FC (α:=Nat) (fun j=>⟨94,[(5,(.d (DJ G))),(6,(.d (DJ G))),(8,(.d (natD k))),(9,(.d (natD j)))],[(40,[.multi M])]⟩) (fun j=>j≤G[k].a.length) (fun j=>G[k].a.length - j) (0) (Nat.zero_le _) (BC hF [40] Z Z ⟨rfl,rfl,rfl,rfl,trivial⟩) ?_))))))));rintro j hj;refine AG (AG (AI (AC Z Z (AC Z Z (AC Z Z ?_)))))
  first | refine J (BE (k) Z Z (rfl) (Cx hkl) Try.underlying47 rfl DV rfl) ?_ | refine J (BF (k) Z Z (rfl) (Cx hkl) rfl Try.underlying47 DV rfl) ?_
  first | refine J (A1 rfl Cf Z Z Z) ?_ | refine J (A3 rfl Cf Z Z Z) ?_ | refine J (A4 rfl Cf Z Z Z) ?_ | refine J (A2 rfl Cf Z Z Z) ?_ | refine J (A0 rfl Cf Z Z Z) ?_
  first | refine J (AX Z Z Ae rfl) ?_ | refine J (AU Z Z Z Ae rfl) ?_ | refine J (AW Z Z (rfl) rfl Ae rfl) ?_
  refine J (Br rfl (List.length_map ..) Try.underlying49 rfl) ?_
  first | refine J (Ed Z Z Z) ?_ | refine J (Ef Z Z Z) ?_
  refine AF ?_
  first | refine BA rfl (fun h74=>?_) (fun h74=>?_) | refine Az rfl (fun h74=>?_) (fun h74=>?_)
  ·refine Ai (AG (B7 (AG ?_)));have hjl:j<G[k].a.length:=HB h74;refine Ee [[],[],[0,1],[0,1,2],[0,1,2,3],[],[0,1,2,3,4,5],[0,1,2,3,4,5,6],[],[],[8,9],[8,9,10],[8,9,10,11],[],[8,9,10,11,12,13],[8,9,10,11,12,13,14],[0,1,2,3,4,5,6,7,8,9,10,11,12,13,14,15]] mixed rfl (DL ?_)
   first | refine AD [5] [] Z Z (fun _=>AB (A9 Z Z)) ?_ | refine AH [5] Z Z (fun _=>AB (A9 Z Z)) ?_
   first | refine AD [8] [] Z Z (fun _=>AB (A9 Z Z)) ?_ | refine AH [8] Z Z (fun _=>AB (A9 Z Z)) ?_
   first | refine AD [77,78] [] Z Z (fun _=>AB (BE (k) Z Z (rfl) (Cx hkl) Try.underlying47 rfl DV rfl)) ?_ | refine AH [77,78] Z Z (fun _=>AB (BE (k) Z Z (rfl) (Cx hkl) Try.underlying47 rfl DV rfl)) ?_ | refine AD [77,78] [] Z Z (fun _=>AB (BF (k) Z Z (rfl) (Cx hkl) rfl Try.underlying47 DV rfl)) ?_ | refine AH [77,78] Z Z (fun _=>AB (BF (k) Z Z (rfl) (Cx hkl) rfl Try.underlying47 DV rfl)) ?_
   first | refine AD [79] [] Z Z (fun _=>AB (A1 rfl Cf Z Z Z)) ?_ | refine AH [79] Z Z (fun _=>AB (A1 rfl Cf Z Z Z)) ?_ | refine AD [79] [] Z Z (fun _=>AB (A3 rfl Cf Z Z Z)) ?_ | refine AH [79] Z Z (fun _=>AB (A3 rfl Cf Z Z Z)) ?_ | refine AD [79] [] Z Z (fun _=>AB (A4 rfl Cf Z Z Z)) ?_ | refine AH [79] Z Z (fun _=>AB (A4 rfl Cf Z Z Z)) ?_ | refine AD [79] [] Z Z (fun _=>AB (A2 rfl Cf Z Z Z)) ?_ | refine AH [79] Z Z (fun _=>AB (A2 rfl Cf Z Z Z)) ?_ | refine AD [79] [] Z Z (fun _=>AB (A0 rfl Cf Z Z Z)) ?_ | refine AH [79] Z Z (fun _=>AB (A0 rfl Cf Z Z Z)) ?_
   first | refine AD [80] [] Z Z (fun _=>AB (AX Z Z Ae rfl)) ?_ | refine AH [80] Z Z (fun _=>AB (AX Z Z Ae rfl)) ?_ | refine AD [80] [] Z Z (fun _=>AB (AU Z Z Z Ae rfl)) ?_ | refine AH [80] Z Z (fun _=>AB (AU Z Z Z Ae rfl)) ?_ | refine AD [80] [] Z Z (fun _=>AB (AW Z Z (rfl) rfl Ae rfl)) ?_ | refine AH [80] Z Z (fun _=>AB (AW Z Z (rfl) rfl Ae rfl)) ?_
   first | refine AD [9] [] Z Z (fun _=>AB (A9 Z Z)) ?_ | refine AH [9] Z Z (fun _=>AB (A9 Z Z)) ?_
   first | refine AD [81,82] [] Z Z (fun _=>AB (BE (j) Z Z (rfl) (D0 hjl) Try.underlying49 rfl D7 rfl)) ?_ | refine AH [81,82] Z Z (fun _=>AB (BE (j) Z Z (rfl) (D0 hjl) Try.underlying49 rfl D7 rfl)) ?_ | refine AD [81,82] [] Z Z (fun _=>AB (BF (j) Z Z (rfl) (D0 hjl) rfl Try.underlying49 D7 rfl)) ?_ | refine AH [81,82] Z Z (fun _=>AB (BF (j) Z Z (rfl) (D0 hjl) rfl Try.underlying49 D7 rfl)) ?_
   first | refine AD [83] [] Z Z (fun _=>AB (AX Z Z Bf rfl)) ?_ | refine AH [83] Z Z (fun _=>AB (AX Z Z Bf rfl)) ?_ | refine AD [83] [] Z Z (fun _=>AB (AU Z Z Z Bf rfl)) ?_ | refine AH [83] Z Z (fun _=>AB (AU Z Z Z Bf rfl)) ?_ | refine AD [83] [] Z Z (fun _=>AB (AW Z Z (rfl) rfl Bf rfl)) ?_ | refine AH [83] Z Z (fun _=>AB (AW Z Z (rfl) rfl Bf rfl)) ?_
   first | refine AD [6] [] Z Z (fun _=>AB (A9 Z Z)) ?_ | refine AH [6] Z Z (fun _=>AB (A9 Z Z)) ?_
   first | refine AD [8] [] Z Z (fun _=>AB (A9 Z Z)) ?_ | refine AH [8] Z Z (fun _=>AB (A9 Z Z)) ?_
   first | refine AD [85,86] [] Z Z (fun _=>AB (BE (k) Z Z (rfl) (Cx hkl) Try.underlying73 rfl HJ rfl)) ?_ | refine AH [85,86] Z Z (fun _=>AB (BE (k) Z Z (rfl) (Cx hkl) Try.underlying73 rfl HJ rfl)) ?_ | refine AD [85,86] [] Z Z (fun _=>AB (BF (k) Z Z (rfl) (Cx hkl) rfl Try.underlying73 HJ rfl)) ?_ | refine AH [85,86] Z Z (fun _=>AB (BF (k) Z Z (rfl) (Cx hkl) rfl Try.underlying73 HJ rfl)) ?_
   first | refine AD [87] [] Z Z (fun _=>AB (A1 rfl G2 Z Z Z)) ?_ | refine AH [87] Z Z (fun _=>AB (A1 rfl G2 Z Z Z)) ?_ | refine AD [87] [] Z Z (fun _=>AB (A3 rfl G2 Z Z Z)) ?_ | refine AH [87] Z Z (fun _=>AB (A3 rfl G2 Z Z Z)) ?_ | refine AD [87] [] Z Z (fun _=>AB (A4 rfl G2 Z Z Z)) ?_ | refine AH [87] Z Z (fun _=>AB (A4 rfl G2 Z Z Z)) ?_ | refine AD [87] [] Z Z (fun _=>AB (A2 rfl G2 Z Z Z)) ?_ | refine AH [87] Z Z (fun _=>AB (A2 rfl G2 Z Z Z)) ?_ | refine AD [87] [] Z Z (fun _=>AB (A0 rfl G2 Z Z Z)) ?_ | refine AH [87] Z Z (fun _=>AB (A0 rfl G2 Z Z Z)) ?_
   first | refine AD [88] [] Z Z (fun _=>AB (AX Z Z Ae rfl)) ?_ | refine AH [88] Z Z (fun _=>AB (AX Z Z Ae rfl)) ?_ | refine AD [88] [] Z Z (fun _=>AB (AU Z Z Z Ae rfl)) ?_ | refine AH [88] Z Z (fun _=>AB (AU Z Z Z Ae rfl)) ?_ | refine AD [88] [] Z Z (fun _=>AB (AW Z Z (rfl) rfl Ae rfl)) ?_ | refine AH [88] Z Z (fun _=>AB (AW Z Z (rfl) rfl Ae rfl)) ?_
   first | refine AD [9] [] Z Z (fun _=>AB (A9 Z Z)) ?_ | refine AH [9] Z Z (fun _=>AB (A9 Z Z)) ?_
   first | refine AD [89,90] [] Z Z (fun _=>AB (BE (j) Z Z (rfl) (D0 hjl) Try.underlying49 rfl D7 rfl)) ?_ | refine AH [89,90] Z Z (fun _=>AB (BE (j) Z Z (rfl) (D0 hjl) Try.underlying49 rfl D7 rfl)) ?_ | refine AD [89,90] [] Z Z (fun _=>AB (BF (j) Z Z (rfl) (D0 hjl) rfl Try.underlying49 D7 rfl)) ?_ | refine AH [89,90] Z Z (fun _=>AB (BF (j) Z Z (rfl) (D0 hjl) rfl Try.underlying49 D7 rfl)) ?_
   first | refine AD [91] [] Z Z (fun _=>AB (AX Z Z Bf rfl)) ?_ | refine AH [91] Z Z (fun _=>AB (AX Z Z Bf rfl)) ?_ | refine AD [91] [] Z Z (fun _=>AB (AU Z Z Z Bf rfl)) ?_ | refine AH [91] Z Z (fun _=>AB (AU Z Z Z Bf rfl)) ?_ | refine AD [91] [] Z Z (fun _=>AB (AW Z Z (rfl) rfl Bf rfl)) ?_ | refine AH [91] Z Z (fun _=>AB (AW Z Z (rfl) rfl Bf rfl)) ?_
   refine DM 16 Z Z Z (BI 17 Z Z ?_)
   first | refine J (G3 Z Z Z) ?_ | refine J (G0 Z Z Z) ?_ | refine J (GX Z Z Z) ?_ | refine J (G4 Try.underlying3 Z Z Z) ?_ | refine J (G6 Try.underlying3 Z Z Z) ?_ | refine J (st_neqN Try.underlying3 Z Z) ?_ | refine J (GZ Try.underlying3 Z Z) ?_ | refine J (st_neqMz Try.underlying3 Z Z) ?_ | refine J (G5 Try.underlying3 Z Z Z) ?_ | refine J (st_neqFN Try.underlying3 Z Z) ?_
   refine AF ⟨rfl,?_⟩;refine ED (D4 rfl (by simp) (Ai (AI (AC Z Z (J (Cm Z Z (IntWalk.i64_in _ (by omega)) rfl) (AE Z Z (AF ?_)))))));exact ⟨j+1,hjl,by omega,BC hF [40] rfl (rfl) ⟨rfl,rfl,rfl,rfl,trivial⟩⟩
  ·refine Dq (AI (AC Z Z (J (Cm Z Z (IntWalk.i64_in _ (by omega)) rfl) (AE Z Z (AF ?_)))));exact ⟨k+1,hkl,by omega,BC hF [40] rfl (rfl) ⟨rfl,rfl,rfl,trivial⟩⟩
 ·refine Dq (AG (AI (AE Z Z (AF (Au ?_)))));exact ⟨_,[40],_,Aq rfl,rfl,rfl,rfl,rfl⟩
end Go.Proofs.Ytlmedakidpaeeaa
