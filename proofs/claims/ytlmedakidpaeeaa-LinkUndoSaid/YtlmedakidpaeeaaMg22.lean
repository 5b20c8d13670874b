/- Layer 27: the reference's Add, AddLink, Unlink, Remove, Same. -/
import Derived.Test.YtlmedakidpaeeaaMg21
namespace Go.Proofs.Ytlmedakidpaeeaa
open Go.RowKit
set_option maxRecDepth 100000
theorem Pc (w:Ws) (hw:B7 w) (x:St):Ba Try.prog 34 [.d (LM w),.d (AU x)] (.tup [LM (addW w x).1,Bt (addW w x).2]):=by
 have hfew:=hw.few;refine DA Try.func34 Z Z Try.ntmps34 Z Z Z fun F hF=>(AF ?_);refine AI (U (IT 20 Z Z Z Z Z Z Z) (U (Hm 21 EA Z Z Z Z) (AD Z Z (AG (AF (AF (AI (AC Z Z ?_))))))))
 first | refine J (JY rfl Try.underlying9 rfl) ?_ | refine J (CJ Z Z Try.underlying9 rfl) ?_ | refine J (JT rfl Try.underlying9 rfl) ?_ | refine J (JW rfl Try.underlying9 rfl) ?_ | refine J (JS rfl Try.underlying9 rfl) ?_ | refine J (JL rfl Try.underlying9 rfl) ?_
 first | refine J (Es Z Z Z) ?_ | refine J (Ex Z Z Z) ?_
 refine AC Z Z ?_
 first | refine JU 9 rfl (fun h9=>?_) (fun h9=>?_) | refine IR 9 rfl (fun h9=>?_) (fun h9=>?_)
 ·refine BA Z Z Z Z (BA Z Z Z Z (BA Z Z Z Z (J (Fp Z Z Z Z) (AG (JM Z Z (AF (AI ?_)))))))
  first | refine J (BS Z Z AL rfl) ?_ | refine J (BQ Z Z AL Z Z Z) ?_ | refine J (BR Z Z (rfl) rfl AL rfl) ?_
  refine U (Bq Z Z Z Z Z Z Z Bf) (AD Z Z (AG (At ?_)));exact ⟨_,[],[],Ar rfl,rfl,rfl,by rw [HX (by omega)],rfl⟩
 ·refine A1 Z Z Z (AC Z Z (A1 Z Z Z ?_))
  first | refine J (JY rfl Try.underlying9 rfl) ?_ | refine J (CJ Z Z Try.underlying9 rfl) ?_ | refine J (JT rfl Try.underlying9 rfl) ?_ | refine J (JW rfl Try.underlying9 rfl) ?_ | refine J (JS rfl Try.underlying9 rfl) ?_ | refine J (JL rfl Try.underlying9 rfl) ?_
  refine A1 Z Z Z ?_
  first | refine J (Mt Z Z Z) ?_ | refine J (Kd Z Z Z) ?_
  refine J (Fo Z Z Z Z) (AG ?_)
  first | refine BC rfl (fun h13=>?_) (fun h13=>?_) | refine Az rfl (fun h13=>?_) (fun h13=>?_)
  ·refine AF (AI ?_)
   first | refine J (BS Z Z AL rfl) ?_ | refine J (BQ Z Z AL Z Z Z) ?_ | refine J (BR Z Z (rfl) rfl AL rfl) ?_
   refine U (Bq Z Z Z Z Z Z Z Bf) (AD Z Z (AG (At ?_)));exact ⟨_,[],[],Ar rfl,rfl,rfl,by rw [HX (by omega)],rfl⟩
  ·refine Ak (AF (AF (AI ?_)))
   first | refine J (A4 rfl Ag Z Z Z) ?_ | refine J (A6 rfl Ag Z Z Z) ?_ | refine J (A7 rfl Ag Z Z Z) ?_ | refine J (A5 rfl Ag Z Z Z) ?_ | refine J (A3 rfl Ag Z Z Z) ?_
   first | refine J (AY Z Z AT rfl) ?_ | refine J (AW Z Z Z AT rfl) ?_ | refine J (AX Z Z (rfl) rfl AT rfl) ?_
   refine AC Z Z (J (DZ (Bn w.R x (by omega)) Z Z) (AG ?_))
   first | refine BC rfl (fun h18=>?_) (fun h18=>?_) | refine Az rfl (fun h18=>?_) (fun h18=>?_)
   ·refine AF (AI ?_)
    first | refine J (BS Z Z AL rfl) ?_ | refine J (BQ Z Z AL Z Z Z) ?_ | refine J (BR Z Z (rfl) rfl AL rfl) ?_
    refine U (Bq Z Z Z Z Z Z Z Bf) (AD Z Z (AG (At ?_)));exact ⟨_,[],[],Ar rfl,rfl,rfl,by rw [N7 (by omega) h18],rfl⟩
   ·refine Ak (AF (AF (AI ?_)))
    first | refine J (A4 rfl Ag Z Z Z) ?_ | refine J (A6 rfl Ag Z Z Z) ?_ | refine J (A7 rfl Ag Z Z Z) ?_ | refine J (A5 rfl Ag Z Z Z) ?_ | refine J (A3 rfl Ag Z Z Z) ?_
    first | refine J (AY Z Z AT rfl) ?_ | refine J (AW Z Z Z AT rfl) ?_ | refine J (AX Z Z (rfl) rfl AT rfl) ?_
    refine J (CJ rfl (List.length_map ..) Try.underlying32 rfl) (J (Ke Z Z Z) (AG ?_))
    first | refine BC rfl (fun h23=>?_) (fun h23=>?_) | refine Az rfl (fun h23=>?_) (fun h23=>?_)
    ·refine AF (AI ?_)
     first | refine J (BS Z Z AL rfl) ?_ | refine J (BQ Z Z AL Z Z Z) ?_ | refine J (BR Z Z (rfl) rfl AL rfl) ?_
     refine U (Bq Z Z Z Z Z Z Z Bf) (AD Z Z (AG (At ?_)));exact ⟨_,[],[],Ar rfl,rfl,rfl,by rw [N6 (by omega) h18 (by omega)],rfl⟩
    ·refine Ak (AF (FH [[],[0],[],[0,1,2],[],[4],[0,1,2,3,4,5],[0,1,2,3,4,5,6],[0,1,2,3,4,5,6,7]] mixed rfl (Dk ?_)))
     first | refine AE [2] [] Z Z (fun _=>AB (A4 rfl Ag Z Z Z)) ?_ | refine AH [2] Z Z (fun _=>AB (A4 rfl Ag Z Z Z)) ?_ | refine AE [2] [] Z Z (fun _=>AB (A6 rfl Ag Z Z Z)) ?_ | refine AH [2] Z Z (fun _=>AB (A6 rfl Ag Z Z Z)) ?_ | refine AE [2] [] Z Z (fun _=>AB (A7 rfl Ag Z Z Z)) ?_ | refine AH [2] Z Z (fun _=>AB (A7 rfl Ag Z Z Z)) ?_ | refine AE [2] [] Z Z (fun _=>AB (A5 rfl Ag Z Z Z)) ?_ | refine AH [2] Z Z (fun _=>AB (A5 rfl Ag Z Z Z)) ?_ | refine AE [2] [] Z Z (fun _=>AB (A3 rfl Ag Z Z Z)) ?_ | refine AH [2] Z Z (fun _=>AB (A3 rfl Ag Z Z Z)) ?_
     first | refine AE [25] [20] Z Z (fun _=>AB (AY Z Z AT rfl)) ?_ | refine AE [25] [20] Z Z (fun _=>AB (AW Z Z Z AT rfl)) ?_ | refine AE [25] [20] Z Z (fun _=>AB (AX Z Z (rfl) rfl AT rfl)) ?_
     first | refine AE [1] [] Z Z (fun _=>AB (Ac Z Z)) ?_ | refine AH [1] Z Z (fun _=>AB (Ac Z Z)) ?_
     first | refine AE [26,27] [] Z Z (fun _=>AB (DZ (EO w.R x (by omega)) Z Z)) ?_ | refine AH [26,27] Z Z (fun _=>AB (DZ (EO w.R x (by omega)) Z Z)) ?_
     first | refine AE [2] [] Z Z (fun _=>AB (A4 rfl Ah Z Z Z)) ?_ | refine AH [2] Z Z (fun _=>AB (A4 rfl Ah Z Z Z)) ?_ | refine AE [2] [] Z Z (fun _=>AB (A6 rfl Ah Z Z Z)) ?_ | refine AH [2] Z Z (fun _=>AB (A6 rfl Ah Z Z Z)) ?_ | refine AE [2] [] Z Z (fun _=>AB (A7 rfl Ah Z Z Z)) ?_ | refine AH [2] Z Z (fun _=>AB (A7 rfl Ah Z Z Z)) ?_ | refine AE [2] [] Z Z (fun _=>AB (A5 rfl Ah Z Z Z)) ?_ | refine AH [2] Z Z (fun _=>AB (A5 rfl Ah Z Z Z)) ?_ | refine AE [2] [] Z Z (fun _=>AB (A3 rfl Ah Z Z Z)) ?_ | refine AH [2] Z Z (fun _=>AB (A3 rfl Ah Z Z Z)) ?_
     first | refine AE [29] [20] Z Z (fun _=>AB (AY Z Z Ax rfl)) ?_ | refine AE [29] [20] Z Z (fun _=>AB (AW Z Z Z Ax rfl)) ?_ | refine AE [29] [20] Z Z (fun _=>AB (AX Z Z (rfl) rfl Ax rfl)) ?_
     refine Dl 6 Z Z Z (B9 7 Z Z (J (Mj EA Lo Z Z Z) (AG ⟨rfl,?_⟩)));refine B9 8 Z Z (U (Bq Z Z Z Z Z Z Z Bf) (AG ⟨rfl,?_⟩));refine B9 9 Z Z (AD Z Z (AG ⟨rfl,?_⟩));refine Em (At ?_);exact ⟨_,[],[],Ar rfl,rfl,rfl,by rw [N5 (by omega) h18 (by omega)],rfl⟩
noncomputable def gD (w:Ws):D:=if acyW w=true then DF (groupsW w) else .sl (some true) []
theorem CU (w:Ws) (hw:B7 w) (hl:w.K.length≤2000000):Ba Try.prog 37 [.d (LM w)] (.tup [gD w,An (acyW w)]):=by
 have h:=Lm w hw hl;unfold gD
 by_cases hc:acyW w=true
 ·rw [if_pos hc] at h⊢;rw [hc];exact h
 ·rw [if_neg hc] at h⊢;rw [Bool.eq_false_iff.2 hc];exact h
set_option maxHeartbeats 4000000 in
theorem Kj (w:Ws) (hw:B7 w) (hK:w.K.length≤1000000) (l:Lw):Ba Try.prog 35 [.d (LM w),.d (Np l)] (.tup [LM (lnkW w l).1,Bt (lnkW w l).2]):=by
 have hfew:=hw.few;refine DA Try.func35 Z Z Try.ntmps35 Z Z Z fun F hF=>(AF ?_);refine AI (U (IT 20 Z Z Z Z Z Z Z) (U (IT 21 Z Z Z Z Z Z Z) (U (Hm 22 EA Z Z Z Z) (AD Z Z (AG (AF (AF (AI ?_))))))))
 first | refine J (A4 rfl K4 Z Z Z) ?_ | refine J (A6 rfl K4 Z Z Z) ?_ | refine J (A7 rfl K4 Z Z Z) ?_ | refine J (A5 rfl K4 Z Z Z) ?_ | refine J (A3 rfl K4 Z Z Z) ?_
 first | refine J (AY Z Z Be rfl) ?_ | refine J (AW Z Z Z Be rfl) ?_ | refine J (AX Z Z (rfl) rfl Be rfl) ?_
 first | refine J (Gt Z Z Z) ?_ | refine J (Gs Z Z Z) ?_ | refine J (GY Z Z Z) ?_ | refine J (Gu Try.underlying3 Z Z Z) ?_ | refine J (Gw Try.underlying3 Z Z Z) ?_ | refine J (st_neqN Try.underlying3 Z Z) ?_ | refine J (Gr Try.underlying3 Z Z) ?_ | refine J (st_neqMz Try.underlying3 Z Z) ?_ | refine J (Gv Try.underlying3 Z Z Z) ?_ | refine J (st_neqFN Try.underlying3 Z Z) ?_
 refine AC Z Z ?_
 first | refine JU 12 rfl (fun h12=>?_) (fun h12=>?_) | refine IR 12 rfl (fun h12=>?_) (fun h12=>?_)
 ·refine A1 Z Z Z ?_
  first | refine J (A4 rfl K4 Z Z Z) ?_ | refine J (A6 rfl K4 Z Z Z) ?_ | refine J (A7 rfl K4 Z Z Z) ?_ | refine J (A5 rfl K4 Z Z Z) ?_ | refine J (A3 rfl K4 Z Z Z) ?_
  refine A1 Z Z Z ?_
  first | refine J (AY Z Z Be rfl) ?_ | refine J (AW Z Z Z Be rfl) ?_ | refine J (AX Z Z (rfl) rfl Be rfl) ?_
  refine A1 Z Z Z ?_
  first | refine J (Gt Z Z Z) ?_ | refine J (Gs Z Z Z) ?_ | refine J (GY Z Z Z) ?_ | refine J (Gu Try.underlying3 Z Z Z) ?_ | refine J (Gw Try.underlying3 Z Z Z) ?_ | refine J (st_neqN Try.underlying3 Z Z) ?_ | refine J (Gr Try.underlying3 Z Z) ?_ | refine J (st_neqMz Try.underlying3 Z Z) ?_ | refine J (Gv Try.underlying3 Z Z Z) ?_ | refine J (st_neqFN Try.underlying3 Z Z) ?_
  refine J (Fp Z Z Z Z) (AG ?_)
  first | refine BC rfl (fun h16=>?_) (fun h16=>?_) | refine Az rfl (fun h16=>?_) (fun h16=>?_)
  ·refine AF (AI ?_)
   first | refine J (BS Z Z AL rfl) ?_ | refine J (BQ Z Z AL Z Z Z) ?_ | refine J (BR Z Z (rfl) rfl AL rfl) ?_
   refine U (Bq Z Z Z Z Z Z Z Bf) (AD Z Z (AG (At ?_)));exact ⟨_,[],[],Ar rfl,rfl,rfl,by rw [QR h12 h16],rfl⟩
  ·refine Ak (AF (AF (AI ?_)))
   first | refine J (A4 rfl Ag Z Z Z) ?_ | refine J (A6 rfl Ag Z Z Z) ?_ | refine J (A7 rfl Ag Z Z Z) ?_ | refine J (A5 rfl Ag Z Z Z) ?_ | refine J (A3 rfl Ag Z Z Z) ?_
   first | refine J (AY Z Z AT rfl) ?_ | refine J (AW Z Z Z AT rfl) ?_ | refine J (AX Z Z (rfl) rfl AT rfl) ?_
   first | refine J (A4 rfl CC Z Z Z) ?_ | refine J (A6 rfl CC Z Z Z) ?_ | refine J (A7 rfl CC Z Z Z) ?_ | refine J (A5 rfl CC Z Z Z) ?_ | refine J (A3 rfl CC Z Z Z) ?_
   first | refine J (AY Z Z AZ rfl) ?_ | refine J (AW Z Z Z AZ rfl) ?_ | refine J (AX Z Z (rfl) rfl AZ rfl) ?_
   refine J (DZ (Bn w.R l.f (by omega)) Z Z) ?_
   first | refine J (EZ Z Z) ?_ | refine J (EY Z Z) ?_
   refine AC Z Z ?_
   first | refine JU 24 rfl (fun h24=>?_) (fun h24=>?_) | refine IR 24 rfl (fun h24=>?_) (fun h24=>?_)
   ·refine BA Z Z Z Z (BA Z Z Z Z ?_);refine BA Z Z Z Z (BA Z Z Z Z (BA Z Z Z Z (BA Z Z Z Z (J (Fp Z Z Z Z) (AG (JM Z Z (AF (AI ?_))))))))
    first | refine J (BS Z Z AL rfl) ?_ | refine J (BQ Z Z AL Z Z Z) ?_ | refine J (BR Z Z (rfl) rfl AL rfl) ?_
    refine U (Bq Z Z Z Z Z Z Z Bf) (AD Z Z (AG (At ?_)));have h9:lnkW w l=(w,9):=MK (by first | exact .inl (Classical.not_not.1 h12) | exact .inr (Classical.not_not.1 h16)) (by first | exact .inl h24 | exact .inr h31);exact ⟨_,[],[],Ar rfl,rfl,rfl,by rw [h9],rfl⟩
   ·refine A1 Z Z Z ?_
    first | refine J (A4 rfl Ag Z Z Z) ?_ | refine J (A6 rfl Ag Z Z Z) ?_ | refine J (A7 rfl Ag Z Z Z) ?_ | refine J (A5 rfl Ag Z Z Z) ?_ | refine J (A3 rfl Ag Z Z Z) ?_
    refine A1 Z Z Z ?_
    first | refine J (AY Z Z AT rfl) ?_ | refine J (AW Z Z Z AT rfl) ?_ | refine J (AX Z Z (rfl) rfl AT rfl) ?_
    refine A1 Z Z Z ?_
    first | refine J (A4 rfl Cc Z Z Z) ?_ | refine J (A6 rfl Cc Z Z Z) ?_ | refine J (A7 rfl Cc Z Z Z) ?_ | refine J (A5 rfl Cc Z Z Z) ?_ | refine J (A3 rfl Cc Z Z Z) ?_
    refine A1 Z Z Z ?_
    first | refine J (AY Z Z AZ rfl) ?_ | refine J (AW Z Z Z AZ rfl) ?_ | refine J (AX Z Z (rfl) rfl AZ rfl) ?_
    refine A1 Z Z Z (J (DZ (Bn w.R l.r (by omega)) Z Z) (A1 Z Z Z ?_))
    first | refine J (EZ Z Z) ?_ | refine J (EY Z Z) ?_
    refine J (Fo Z Z Z Z) (AG ?_)
    first | refine BC rfl (fun h31=>?_) (fun h31=>?_) | refine Az rfl (fun h31=>?_) (fun h31=>?_)
    ·refine AF (AI ?_)
     first | refine J (BS Z Z AL rfl) ?_ | refine J (BQ Z Z AL Z Z Z) ?_ | refine J (BR Z Z (rfl) rfl AL rfl) ?_
     refine U (Bq Z Z Z Z Z Z Z Bf) (AD Z Z (AG (At ?_)));have h9:lnkW w l=(w,9):=MK (by first | exact .inl (Classical.not_not.1 h12) | exact .inr (Classical.not_not.1 h16)) (by first | exact .inl h24 | exact .inr h31);exact ⟨_,[],[],Ar rfl,rfl,rfl,by rw [h9],rfl⟩
    ·refine Ak (AF (AF ?_));have ht:l.t=0∨l.t=1:=by first | exact .inl (Classical.not_not.1 h12) | exact .inr (Classical.not_not.1 h16)
     have hfR:l.f∈w.R:=Classical.not_not.1 h24;have hrR:l.r∈w.R:=Classical.not_not.1 h31;refine AI ?_
     first | refine J (A4 rfl CC Z Z Z) ?_ | refine J (A6 rfl CC Z Z Z) ?_ | refine J (A7 rfl CC Z Z Z) ?_ | refine J (A5 rfl CC Z Z Z) ?_ | refine J (A3 rfl CC Z Z Z) ?_
     first | refine J (AY Z Z AZ rfl) ?_ | refine J (AW Z Z Z AZ rfl) ?_ | refine J (AX Z Z (rfl) rfl AZ rfl) ?_
     first | refine J (A4 rfl Cc Z Z Z) ?_ | refine J (A6 rfl Cc Z Z Z) ?_ | refine J (A7 rfl Cc Z Z Z) ?_ | refine J (A5 rfl Cc Z Z Z) ?_ | refine J (A3 rfl Cc Z Z Z) ?_
     first | refine J (AY Z Z AZ rfl) ?_ | refine J (AW Z Z Z AZ rfl) ?_ | refine J (AX Z Z (rfl) rfl AZ rfl) ?_
     first | refine J (Er Z Z Z) ?_ | refine J (FF Z Z Z) ?_ | refine J (En Z Z Z) ?_ | refine J (Et Try.underlying9 Z Z Z) ?_ | refine J (Ew Try.underlying9 Z Z Z) ?_ | refine J (Ev Try.underlying9 Z Z) ?_ | refine J (FE Try.underlying9 Z Z) ?_ | refine J (Ez Try.underlying9 Z Z) ?_ | refine J (Eu Try.underlying9 Z Z Z) ?_ | refine J (Ey Try.underlying9 Z Z) ?_
     refine AG ?_
     first | refine BC rfl (fun h37=>?_) (fun h37=>?_) | refine Az rfl (fun h37=>?_) (fun h37=>?_)
     ·refine AF (AI ?_)
      first | refine J (BS Z Z AL rfl) ?_ | refine J (BQ Z Z AL Z Z Z) ?_ | refine J (BR Z Z (rfl) rfl AL rfl) ?_
      refine U (Bq Z Z Z Z Z Z Z Bf) (AD Z Z (AG (At ?_)));exact ⟨_,[],[],Ar rfl,rfl,rfl,by rw [KG ht hfR hrR h37],rfl⟩
     ·refine Ak (AF (AF (AI ?_)))
      first | refine J (BS Z Z AL rfl) ?_ | refine J (BQ Z Z AL Z Z Z) ?_ | refine J (BR Z Z (rfl) rfl AL rfl) ?_
      first | refine J (BS Z Z Av rfl) ?_ | refine J (BQ Z Z Av Z Z Z) ?_ | refine J (BR Z Z (rfl) rfl Av rfl) ?_
      refine J (DZ (NT w l (by omega)) Z Z) (AG ?_)
      first | refine BC rfl (fun h41=>?_) (fun h41=>?_) | refine Az rfl (fun h41=>?_) (fun h41=>?_)
      ·refine AF (AI ?_)
       first | refine J (BS Z Z AL rfl) ?_ | refine J (BQ Z Z AL Z Z Z) ?_ | refine J (BR Z Z (rfl) rfl AL rfl) ?_
       refine U (Bq Z Z Z Z Z Z Z Bf) (AD Z Z (AG (At ?_)));exact ⟨_,[],[],Ar rfl,rfl,rfl,by rw [lnk7 ht hfR hrR h37 h41],rfl⟩
      ·refine Ak (AF ?_);have hok1:=hw.with_ ht hfR hrR h37 h41;refine FH [[],[0],[],[],[3],[2,3,4],[],[6],[2,3,4,5,6,7],[0,1,2,3,4,5,6,7,8],[],[0,1,2,3,4,5,6,7,8,9,10]] mixed rfl (Dk ?_)
       first | refine AE [2] [] Z Z (fun _=>AB (A4 rfl Ag Z Z Z)) ?_ | refine AH [2] Z Z (fun _=>AB (A4 rfl Ag Z Z Z)) ?_ | refine AE [2] [] Z Z (fun _=>AB (A6 rfl Ag Z Z Z)) ?_ | refine AH [2] Z Z (fun _=>AB (A6 rfl Ag Z Z Z)) ?_ | refine AE [2] [] Z Z (fun _=>AB (A7 rfl Ag Z Z Z)) ?_ | refine AH [2] Z Z (fun _=>AB (A7 rfl Ag Z Z Z)) ?_ | refine AE [2] [] Z Z (fun _=>AB (A5 rfl Ag Z Z Z)) ?_ | refine AH [2] Z Z (fun _=>AB (A5 rfl Ag Z Z Z)) ?_ | refine AE [2] [] Z Z (fun _=>AB (A3 rfl Ag Z Z Z)) ?_ | refine AH [2] Z Z (fun _=>AB (A3 rfl Ag Z Z Z)) ?_
       first | refine AE [43] [20] Z Z (fun _=>AB (AY Z Z AT rfl)) ?_ | refine AE [43] [20] Z Z (fun _=>AB (AW Z Z Z AT rfl)) ?_ | refine AE [43] [20] Z Z (fun _=>AB (AX Z Z (rfl) rfl AT rfl)) ?_
       refine CA [] [30] [(45,_)] Z Z (fun _=>IP (Gx 30 Eo Z Z Z Z Z Z Z Z)) (.inr ⟨45,_,rfl,rfl,rfl,rfl,rfl⟩) Z Z Z Z Z ?_
       first | refine AE [2] [] Z Z (fun _=>AB (A4 rfl Ah Z Z Z)) ?_ | refine AH [2] Z Z (fun _=>AB (A4 rfl Ah Z Z Z)) ?_ | refine AE [2] [] Z Z (fun _=>AB (A6 rfl Ah Z Z Z)) ?_ | refine AH [2] Z Z (fun _=>AB (A6 rfl Ah Z Z Z)) ?_ | refine AE [2] [] Z Z (fun _=>AB (A7 rfl Ah Z Z Z)) ?_ | refine AH [2] Z Z (fun _=>AB (A7 rfl Ah Z Z Z)) ?_ | refine AE [2] [] Z Z (fun _=>AB (A5 rfl Ah Z Z Z)) ?_ | refine AH [2] Z Z (fun _=>AB (A5 rfl Ah Z Z Z)) ?_ | refine AE [2] [] Z Z (fun _=>AB (A3 rfl Ah Z Z Z)) ?_ | refine AH [2] Z Z (fun _=>AB (A3 rfl Ah Z Z Z)) ?_
       first | refine AE [46] [20] Z Z (fun _=>AB (AY Z Z Ax rfl)) ?_ | refine AE [46] [20] Z Z (fun _=>AB (AW Z Z Z Ax rfl)) ?_ | refine AE [46] [20] Z Z (fun _=>AB (AX Z Z (rfl) rfl Ax rfl)) ?_
       refine CA [45,47] [30] [(48,_)] Z Z (fun _=>IP (K5 (emb:=Np) [] w.K Z Z Z Z Z Z (fun _=>rfl) Eo (by show (0+w.K.length)*40≤_;omega) Z Z Z Z)) (.inr ⟨48,_,rfl,rfl,rfl,rfl,rfl⟩) Z Z Z Z Z ?_
       first | refine AE [3] [21] Z Z (fun _=>AB (BS Z Z Av rfl)) ?_ | refine AE [3] [21] Z Z (fun _=>AB (BQ Z Z Av Z Z Z)) ?_ | refine AE [3] [21] Z Z (fun _=>AB (BR Z Z (rfl) rfl Av rfl)) ?_
       refine CA [49] [31] [(50,_)] Z Z (fun _=>IP (Gx 31 Eo Z Z Z Z Z Z Z Z)) (.inr ⟨50,_,rfl,rfl,rfl,rfl,rfl⟩) Z Z Z Z Z ?_
       first | refine JE [45] [48,50] [30,31] [(51,_)] Z Z (fun _=>IP (JZ (w.K) ([l]) Z Z Z Z Z Z Z Z Eo (by simp only [List.length_singleton];omega) Z Z Z Z)) (.inr ⟨51,_,rfl,rfl,rfl,rfl,rfl⟩) Z Z Z Z Z ?_ | refine JE [45] [48,50] [30,31] [(51,_)] Z Z (fun _=>IP (K5 (w.K) ([l]) Z Z Z Z Z Z (fun _=>rfl) Eo (by simp only [List.length_singleton];omega) Z Z Z Z)) (.inr ⟨51,_,rfl,rfl,rfl,rfl,rfl⟩) Z Z Z Z Z ?_
       first | refine AE [44,51] [] Z Z (fun _=>AB (Mj EA Lo Z Z Z)) ?_ | refine AH [44,51] Z Z (fun _=>AB (Mj EA Lo Z Z Z)) ?_
       refine CA [] [32] [(6,_)] Z Z (fun _=>IP (Hm 32 EA Z Z Z Z)) (.inr ⟨6,_,rfl,rfl,rfl,rfl,rfl⟩) Z Z Z Z Z (Dl 11 Z Z Z (B9 12 Z Z (U (Bq Z Z Z Z Z Z Z Bf) (AG ⟨rfl,?_⟩))));refine Em (AF (AF (CO (ys:=(w.K++ [l]).map Np) 32 0 1 30 Z Z Z (Nat.le_of_eq (by rw [List.length_map])) (List.take_of_length_le (by rw [List.length_map];exact Nat.le_refl _)) Z Z Z Z Z Z (AI ?_))))
       first | refine J (BS Z Z AL rfl) ?_ | refine J (BQ Z Z AL Z Z Z) ?_ | refine J (BR Z Z (rfl) rfl AL rfl) ?_
       refine J (DZ (CU (BB w l) hok1 (by show (w.K++ [l]).length≤_;rw [List.length_append,List.length_singleton];omega)) Z Z) (AC Z Z ?_)
       first | refine J (B5 Z Z Z) ?_ | refine J (B6 Z Z Z) ?_
       first | refine J (B5 Z Z Z) ?_ | refine J (B6 Z Z Z) ?_
       refine AD Z Z (AD Z Z (AG (AF ?_)));have h0:=NN ht hfR hrR h37 h41;refine AI (AC Z Z ?_)
       first | refine J (EZ Z Z) ?_ | refine J (EY Z Z) ?_
       refine AG ?_
       first | refine BC rfl (fun h59=>?_) (fun h59=>?_) | refine Az rfl (fun h59=>?_) (fun h59=>?_)
       ·refine AF (AI ?_)
        first | refine J (BS Z Z AL rfl) ?_ | refine J (BQ Z Z AL Z Z Z) ?_ | refine J (BR Z Z (rfl) rfl AL rfl) ?_
        refine U (Bq Z Z Z Z Z Z Z Bf) (AD Z Z (AG (At ?_)));have hac:acyW (BB w l)=false:=by simpa using h59
        exact ⟨_,[],[],Ar rfl,rfl,rfl,by rw [h0,hac];rfl,rfl⟩
       ·refine Ak (AF (AI ?_))
        first | refine J (BS Z Z AL rfl) ?_ | refine J (BQ Z Z AL Z Z Z) ?_ | refine J (BR Z Z (rfl) rfl AL rfl) ?_
        refine U (Bq Z Z Z Z Z Z Z Bf) (AD Z Z (AG (At ?_)));have hac:acyW (BB w l)=true:=by simpa using h59
        exact ⟨_,[],[],Ar rfl,rfl,rfl,by rw [h0,if_pos hac];rfl,rfl⟩
 ·refine BA Z Z Z Z ?_;refine BA Z Z Z Z (BA Z Z Z Z (J (Fo Z Z Z Z) (AG (D0 Z Z (Ak (AF (AF (AI ?_))))))))
  first | refine J (A4 rfl Ag Z Z Z) ?_ | refine J (A6 rfl Ag Z Z Z) ?_ | refine J (A7 rfl Ag Z Z Z) ?_ | refine J (A5 rfl Ag Z Z Z) ?_ | refine J (A3 rfl Ag Z Z Z) ?_
  first | refine J (AY Z Z AT rfl) ?_ | refine J (AW Z Z Z AT rfl) ?_ | refine J (AX Z Z (rfl) rfl AT rfl) ?_
  first | refine J (A4 rfl CC Z Z Z) ?_ | refine J (A6 rfl CC Z Z Z) ?_ | refine J (A7 rfl CC Z Z Z) ?_ | refine J (A5 rfl CC Z Z Z) ?_ | refine J (A3 rfl CC Z Z Z) ?_
  first | refine J (AY Z Z AZ rfl) ?_ | refine J (AW Z Z Z AZ rfl) ?_ | refine J (AX Z Z (rfl) rfl AZ rfl) ?_
  refine J (DZ (Bn w.R l.f (by omega)) Z Z) ?_
  first | refine J (EZ Z Z) ?_ | refine J (EY Z Z) ?_
  refine AC Z Z ?_
  first | refine JU 24 rfl (fun h24=>?_) (fun h24=>?_) | refine IR 24 rfl (fun h24=>?_) (fun h24=>?_)
  ·refine BA Z Z Z Z (BA Z Z Z Z ?_);refine BA Z Z Z Z (BA Z Z Z Z (BA Z Z Z Z (BA Z Z Z Z (J (Fp Z Z Z Z) (AG (JM Z Z (AF (AI ?_))))))))
   first | refine J (BS Z Z AL rfl) ?_ | refine J (BQ Z Z AL Z Z Z) ?_ | refine J (BR Z Z (rfl) rfl AL rfl) ?_
   refine U (Bq Z Z Z Z Z Z Z Bf) (AD Z Z (AG (At ?_)));have h9:lnkW w l=(w,9):=MK (by first | exact .inl (Classical.not_not.1 h12) | exact .inr (Classical.not_not.1 h16)) (by first | exact .inl h24 | exact .inr h31);exact ⟨_,[],[],Ar rfl,rfl,rfl,by rw [h9],rfl⟩
  ·refine A1 Z Z Z ?_
   first | refine J (A4 rfl Ag Z Z Z) ?_ | refine J (A6 rfl Ag Z Z Z) ?_ | refine J (A7 rfl Ag Z Z Z) ?_ | refine J (A5 rfl Ag Z Z Z) ?_ | refine J (A3 rfl Ag Z Z Z) ?_
   refine A1 Z Z Z ?_
   first | refine J (AY Z Z AT rfl) ?_ | refine J (AW Z Z Z AT rfl) ?_ | refine J (AX Z Z (rfl) rfl AT rfl) ?_
   refine A1 Z Z Z ?_
   first | refine J (A4 rfl Cc Z Z Z) ?_ | refine J (A6 rfl Cc Z Z Z) ?_ | refine J (A7 rfl Cc Z Z Z) ?_ | refine J (A5 rfl Cc Z Z Z) ?_ | refine J (A3 rfl Cc Z Z Z) ?_
   refine A1 Z Z Z ?_
   first | refine J (AY Z Z AZ rfl) ?_ | refine J (AW Z Z Z AZ rfl) ?_ | refine J (AX Z Z (rfl) rfl AZ rfl) ?_
   refine A1 Z Z Z (J (DZ (Bn w.R l.r (by omega)) Z Z) (A1 Z Z Z ?_))
   first | refine J (EZ Z Z) ?_ | refine J (EY Z Z) ?_
   refine J (Fo Z Z Z Z) (AG ?_)
   first | refine BC rfl (fun h31=>?_) (fun h31=>?_) | refine Az rfl (fun h31=>?_) (fun h31=>?_)
   ·refine AF (AI ?_)
    first | refine J (BS Z Z AL rfl) ?_ | refine J (BQ Z Z AL Z Z Z) ?_ | refine J (BR Z Z (rfl) rfl AL rfl) ?_
    refine U (Bq Z Z Z Z Z Z Z Bf) (AD Z Z (AG (At ?_)));have h9:lnkW w l=(w,9):=MK (by first | exact .inl (Classical.not_not.1 h12) | exact .inr (Classical.not_not.1 h16)) (by first | exact .inl h24 | exact .inr h31);exact ⟨_,[],[],Ar rfl,rfl,rfl,by rw [h9],rfl⟩
   ·refine Ak (AF (AF ?_));have ht:l.t=0∨l.t=1:=by first | exact .inl (Classical.not_not.1 h12) | exact .inr (Classical.not_not.1 h16)
    have hfR:l.f∈w.R:=Classical.not_not.1 h24;have hrR:l.r∈w.R:=Classical.not_not.1 h31;refine AI ?_
    first | refine J (A4 rfl CC Z Z Z) ?_ | refine J (A6 rfl CC Z Z Z) ?_ | refine J (A7 rfl CC Z Z Z) ?_ | refine J (A5 rfl CC Z Z Z) ?_ | refine J (A3 rfl CC Z Z Z) ?_
    first | refine J (AY Z Z AZ rfl) ?_ | refine J (AW Z Z Z AZ rfl) ?_ | refine J (AX Z Z (rfl) rfl AZ rfl) ?_
    first | refine J (A4 rfl Cc Z Z Z) ?_ | refine J (A6 rfl Cc Z Z Z) ?_ | refine J (A7 rfl Cc Z Z Z) ?_ | refine J (A5 rfl Cc Z Z Z) ?_ | refine J (A3 rfl Cc Z Z Z) ?_
    first | refine J (AY Z Z AZ rfl) ?_ | refine J (AW Z Z Z AZ rfl) ?_ | refine J (AX Z Z (rfl) rfl AZ rfl) ?_
    first | refine J (Er Z Z Z) ?_ | refine J (FF Z Z Z) ?_ | refine J (En Z Z Z) ?_ | refine J (Et Try.underlying9 Z Z Z) ?_ | refine J (Ew Try.underlying9 Z Z Z) ?_ | refine J (Ev Try.underlying9 Z Z) ?_ | refine J (FE Try.underlying9 Z Z) ?_ | refine J (Ez Try.underlying9 Z Z) ?_ | refine J (Eu Try.underlying9 Z Z Z) ?_ | refine J (Ey Try.underlying9 Z Z) ?_
    refine AG ?_
    first | refine BC rfl (fun h37=>?_) (fun h37=>?_) | refine Az rfl (fun h37=>?_) (fun h37=>?_)
    ·refine AF (AI ?_)
     first | refine J (BS Z Z AL rfl) ?_ | refine J (BQ Z Z AL Z Z Z) ?_ | refine J (BR Z Z (rfl) rfl AL rfl) ?_
     refine U (Bq Z Z Z Z Z Z Z Bf) (AD Z Z (AG (At ?_)));exact ⟨_,[],[],Ar rfl,rfl,rfl,by rw [KG ht hfR hrR h37],rfl⟩
    ·refine Ak (AF (AF (AI ?_)))
     first | refine J (BS Z Z AL rfl) ?_ | refine J (BQ Z Z AL Z Z Z) ?_ | refine J (BR Z Z (rfl) rfl AL rfl) ?_
     first | refine J (BS Z Z Av rfl) ?_ | refine J (BQ Z Z Av Z Z Z) ?_ | refine J (BR Z Z (rfl) rfl Av rfl) ?_
     refine J (DZ (NT w l (by omega)) Z Z) (AG ?_)
     first | refine BC rfl (fun h41=>?_) (fun h41=>?_) | refine Az rfl (fun h41=>?_) (fun h41=>?_)
     ·refine AF (AI ?_)
      first | refine J (BS Z Z AL rfl) ?_ | refine J (BQ Z Z AL Z Z Z) ?_ | refine J (BR Z Z (rfl) rfl AL rfl) ?_
      refine U (Bq Z Z Z Z Z Z Z Bf) (AD Z Z (AG (At ?_)));exact ⟨_,[],[],Ar rfl,rfl,rfl,by rw [lnk7 ht hfR hrR h37 h41],rfl⟩
     ·refine Ak (AF ?_);have hok1:=hw.with_ ht hfR hrR h37 h41;refine FH [[],[0],[],[],[3],[2,3,4],[],[6],[2,3,4,5,6,7],[0,1,2,3,4,5,6,7,8],[],[0,1,2,3,4,5,6,7,8,9,10]] mixed rfl (Dk ?_)
      first | refine AE [2] [] Z Z (fun _=>AB (A4 rfl Ag Z Z Z)) ?_ | refine AH [2] Z Z (fun _=>AB (A4 rfl Ag Z Z Z)) ?_ | refine AE [2] [] Z Z (fun _=>AB (A6 rfl Ag Z Z Z)) ?_ | refine AH [2] Z Z (fun _=>AB (A6 rfl Ag Z Z Z)) ?_ | refine AE [2] [] Z Z (fun _=>AB (A7 rfl Ag Z Z Z)) ?_ | refine AH [2] Z Z (fun _=>AB (A7 rfl Ag Z Z Z)) ?_ | refine AE [2] [] Z Z (fun _=>AB (A5 rfl Ag Z Z Z)) ?_ | refine AH [2] Z Z (fun _=>AB (A5 rfl Ag Z Z Z)) ?_ | refine AE [2] [] Z Z (fun _=>AB (A3 rfl Ag Z Z Z)) ?_ | refine AH [2] Z Z (fun _=>AB (A3 rfl Ag Z Z Z)) ?_
      first | refine AE [43] [20] Z Z (fun _=>AB (AY Z Z AT rfl)) ?_ | refine AE [43] [20] Z Z (fun _=>AB (AW Z Z Z AT rfl)) ?_ | refine AE [43] [20] Z Z (fun _=>AB (AX Z Z (rfl) rfl AT rfl)) ?_
      refine CA [] [30] [(45,_)] Z Z (fun _=>IP (Gx 30 Eo Z Z Z Z Z Z Z Z)) (.inr ⟨45,_,rfl,rfl,rfl,rfl,rfl⟩) Z Z Z Z Z ?_
      first | refine AE [2] [] Z Z (fun _=>AB (A4 rfl Ah Z Z Z)) ?_ | refine AH [2] Z Z (fun _=>AB (A4 rfl Ah Z Z Z)) ?_ | refine AE [2] [] Z Z (fun _=>AB (A6 rfl Ah Z Z Z)) ?_ | refine AH [2] Z Z (fun _=>AB (A6 rfl Ah Z Z Z)) ?_ | refine AE [2] [] Z Z (fun _=>AB (A7 rfl Ah Z Z Z)) ?_ | refine AH [2] Z Z (fun _=>AB (A7 rfl Ah Z Z Z)) ?_ | refine AE [2] [] Z Z (fun _=>AB (A5 rfl Ah Z Z Z)) ?_ | refine AH [2] Z Z (fun _=>AB (A5 rfl Ah Z Z Z)) ?_ | refine AE [2] [] Z Z (fun _=>AB (A3 rfl Ah Z Z Z)) ?_ | refine AH [2] Z Z (fun _=>AB (A3 rfl Ah Z Z Z)) ?_
      first | refine AE [46] [20] Z Z (fun _=>AB (AY Z Z Ax rfl)) ?_ | refine AE [46] [20] Z Z (fun _=>AB (AW Z Z Z Ax rfl)) ?_ | refine AE [46] [20] Z Z (fun _=>AB (AX Z Z (rfl) rfl Ax rfl)) ?_
      refine CA [45,47] [30] [(48,_)] Z Z (fun _=>IP (K5 (emb:=Np) [] w.K Z Z Z Z Z Z (fun _=>rfl) Eo (by show (0+w.K.length)*40≤_;omega) Z Z Z Z)) (.inr ⟨48,_,rfl,rfl,rfl,rfl,rfl⟩) Z Z Z Z Z ?_
      first | refine AE [3] [21] Z Z (fun _=>AB (BS Z Z Av rfl)) ?_ | refine AE [3] [21] Z Z (fun _=>AB (BQ Z Z Av Z Z Z)) ?_ | refine AE [3] [21] Z Z (fun _=>AB (BR Z Z (rfl) rfl Av rfl)) ?_
      refine CA [49] [31] [(50,_)] Z Z (fun _=>IP (Gx 31 Eo Z Z Z Z Z Z Z Z)) (.inr ⟨50,_,rfl,rfl,rfl,rfl,rfl⟩) Z Z Z Z Z ?_
      first | refine JE [45] [48,50] [30,31] [(51,_)] Z Z (fun _=>IP (JZ (w.K) ([l]) Z Z Z Z Z Z Z Z Eo (by simp only [List.length_singleton];omega) Z Z Z Z)) (.inr ⟨51,_,rfl,rfl,rfl,rfl,rfl⟩) Z Z Z Z Z ?_ | refine JE [45] [48,50] [30,31] [(51,_)] Z Z (fun _=>IP (K5 (w.K) ([l]) Z Z Z Z Z Z (fun _=>rfl) Eo (by simp only [List.length_singleton];omega) Z Z Z Z)) (.inr ⟨51,_,rfl,rfl,rfl,rfl,rfl⟩) Z Z Z Z Z ?_
      first | refine AE [44,51] [] Z Z (fun _=>AB (Mj EA Lo Z Z Z)) ?_ | refine AH [44,51] Z Z (fun _=>AB (Mj EA Lo Z Z Z)) ?_
      refine CA [] [32] [(6,_)] Z Z (fun _=>IP (Hm 32 EA Z Z Z Z)) (.inr ⟨6,_,rfl,rfl,rfl,rfl,rfl⟩) Z Z Z Z Z (Dl 11 Z Z Z (B9 12 Z Z (U (Bq Z Z Z Z Z Z Z Bf) (AG ⟨rfl,?_⟩))));refine Em (AF (AF (CO (ys:=(w.K++ [l]).map Np) 32 0 1 30 Z Z Z (Nat.le_of_eq (by rw [List.length_map])) (List.take_of_length_le (by rw [List.length_map];exact Nat.le_refl _)) Z Z Z Z Z Z (AI ?_))))
      first | refine J (BS Z Z AL rfl) ?_ | refine J (BQ Z Z AL Z Z Z) ?_ | refine J (BR Z Z (rfl) rfl AL rfl) ?_
      refine J (DZ (CU (BB w l) hok1 (by show (w.K++ [l]).length≤_;rw [List.length_append,List.length_singleton];omega)) Z Z) (AC Z Z ?_)
      first | refine J (B5 Z Z Z) ?_ | refine J (B6 Z Z Z) ?_
      first | refine J (B5 Z Z Z) ?_ | refine J (B6 Z Z Z) ?_
      refine AD Z Z (AD Z Z (AG (AF ?_)));have h0:=NN ht hfR hrR h37 h41;refine AI (AC Z Z ?_)
      first | refine J (EZ Z Z) ?_ | refine J (EY Z Z) ?_
      refine AG ?_
      first | refine BC rfl (fun h59=>?_) (fun h59=>?_) | refine Az rfl (fun h59=>?_) (fun h59=>?_)
      ·refine AF (AI ?_)
       first | refine J (BS Z Z AL rfl) ?_ | refine J (BQ Z Z AL Z Z Z) ?_ | refine J (BR Z Z (rfl) rfl AL rfl) ?_
       refine U (Bq Z Z Z Z Z Z Z Bf) (AD Z Z (AG (At ?_)));have hac:acyW (BB w l)=false:=by simpa using h59
       exact ⟨_,[],[],Ar rfl,rfl,rfl,by rw [h0,hac];rfl,rfl⟩
      ·refine Ak (AF (AI ?_))
       first | refine J (BS Z Z AL rfl) ?_ | refine J (BQ Z Z AL Z Z Z) ?_ | refine J (BR Z Z (rfl) rfl AL rfl) ?_
       refine U (Bq Z Z Z Z Z Z Z Bf) (AD Z Z (AG (At ?_)));have hac:acyW (BB w l)=true:=by simpa using h59
       exact ⟨_,[],[],Ar rfl,rfl,rfl,by rw [h0,if_pos hac];rfl,rfl⟩
theorem lw_neC (a b:Lw):(!Ay (lwC a) (lwC b))=decide (¬a=b):=by rw [QN];simp
def Ho (l:Lw) (K:List Lw) (k:Nat):List Lw:=(K.take k).filter fun x=>!decide (x=l)
theorem P2 {l:Lw} {K:List Lw} {k:Nat} (hk:k<K.length) (h:¬K[k]=l):Ho l K (k+1)=Ho l K k++ [K[k]]:=by
 unfold Ho;rw [List.take_succ_eq_append_getElem hk,List.filter_append];simp [h]
theorem OY {l:Lw} {K:List Lw} {k:Nat} (hk:k<K.length) (h:K[k]=l):Ho l K (k+1)=Ho l K k:=by
 unfold Ho;rw [List.take_succ_eq_append_getElem hk,List.filter_append];simp [h]
theorem P1 (l:Lw) (K:List Lw) (k:Nat):(Ho l K k).length≤K.length:=by
 unfold Ho;exact Nat.le_trans (List.length_filter_le _ _) (by rw [List.length_take];omega)
set_option maxHeartbeats 4000000 in
theorem Lj (w:Ws) (hw:B7 w) (hK:w.K.length≤1000000) (l:Lw):Ba Try.prog 36 [.d (LM w),.d (Np l)] (.tup [LM (unlW w l).1,Bt (unlW w l).2]):=by
 have hfew:=hw.few;refine DA Try.func36 Z Z Try.ntmps36 Z Z Z fun F hF=>(AF ?_);refine AI (U (IT 20 Z Z Z Z Z Z Z) (U (IT 21 Z Z Z Z Z Z Z) (U (Hm 22 EA Z Z Z Z) (AD Z Z (AG (AF (AF (AI ?_))))))))
 first | refine J (BS Z Z AL rfl) ?_ | refine J (BQ Z Z AL Z Z Z) ?_ | refine J (BR Z Z (rfl) rfl AL rfl) ?_
 first | refine J (BS Z Z Av rfl) ?_ | refine J (BQ Z Z Av Z Z Z) ?_ | refine J (BR Z Z (rfl) rfl Av rfl) ?_
 refine J (DZ (NT w l (by omega)) Z Z) ?_
 first | refine J (EZ Z Z) ?_ | refine J (EY Z Z) ?_
 refine AG ?_
 first | refine BC rfl (fun h13=>?_) (fun h13=>?_) | refine Az rfl (fun h13=>?_) (fun h13=>?_)
 ·refine AF (AI ?_)
  first | refine J (BS Z Z AL rfl) ?_ | refine J (BQ Z Z AL Z Z Z) ?_ | refine J (BR Z Z (rfl) rfl AL rfl) ?_
  refine U (Bq Z Z Z Z Z Z Z Bf) (AD Z Z (AG (At ?_)));exact ⟨_,[],[],Ar rfl,rfl,rfl,by rw [unl9 h13],rfl⟩
 ·refine Ak (AF ?_);have hlK:l∈w.K:=Classical.not_not.1 h13;have h0:=unl0 hlK;refine AI ?_
  first | refine J (A4 rfl Ag Z Z Z) ?_ | refine J (A6 rfl Ag Z Z Z) ?_ | refine J (A7 rfl Ag Z Z Z) ?_ | refine J (A5 rfl Ag Z Z Z) ?_ | refine J (A3 rfl Ag Z Z Z) ?_
  first | refine J (AY Z Z AT rfl) ?_ | refine J (AW Z Z Z AT rfl) ?_ | refine J (AX Z Z (rfl) rfl AT rfl) ?_
  refine J (Mj EA Lo Z Z Z) (U (Hm 32 EA Z Z Z Z) (U (Bq Z Z Z Z Z Z Z Bf) ?_));refine AG (AF (AF (AI (AD Z Z (AG (Bc (DV 32 0 1 33 Eo Z Z Z Z Z Z Z (F4 (α:=Nat×List Lw) (fun q=>⟨51,[(2,(.ptr 20 0 0)),(3,(.ptr 21 0 0)),(4,(.ptr 22 0 0)),(6,(.ptr 32 0 0)),(7,(.d (natD q.1)))],[JH 20 w,(21,[.blk 71 [.d (AU l.f),.d (Bt l.t),.d (AU l.r)]]),(22,[.blk 35 [.d (.sl (some true) []),.d (.sl (some true) [])]]),(32,[.blk 35 [.d (stsD w.R),.own 33 0 q.2.length]]),(33,[.rowD 71 3 (q.2.map Np)])]⟩) (fun q=>q.1≤w.K.length∧q.2=Ho l w.K q.1) (fun q=>w.K.length - q.1) ((0,[])) (⟨Nat.zero_le _,rfl⟩) (BK hF [20,21,22,32,33] Z Z ⟨rfl,rfl,rfl,rfl,rfl,trivial⟩) ?_))))))));rintro ⟨k,acc⟩ ⟨hk,hacc⟩;dsimp only at hk hacc⊢;refine AF (AF (AI (AC Z Z ?_)))
  first | refine J (A4 rfl Ah Z Z Z) ?_ | refine J (A6 rfl Ah Z Z Z) ?_ | refine J (A7 rfl Ah Z Z Z) ?_ | refine J (A5 rfl Ah Z Z Z) ?_ | refine J (A3 rfl Ah Z Z Z) ?_
  first | refine J (AY Z Z Ax rfl) ?_ | refine J (AW Z Z Z Ax rfl) ?_ | refine J (AX Z Z (rfl) rfl Ax rfl) ?_
  refine J (CJ rfl (List.length_map ..) Try.underlying33 rfl) ?_
  first | refine J (Es Z Z Z) ?_ | refine J (Ex Z Z Z) ?_
  refine AG ?_
  first | refine BC rfl (fun h22=>?_) (fun h22=>?_) | refine Az rfl (fun h22=>?_) (fun h22=>?_)
  ·refine Ak (AF (Bc (AF ?_)));have hkl:k<w.K.length:=Hl h22;have hal:acc.length≤w.K.length:=by rw [hacc];exact P1 _ _ _
   refine FH [[],[0],[],[0,1,2],[0,1,2,3],[],[0,1,2,3,4,5]] mixed rfl (Dk ?_)
   first | refine AE [2] [] Z Z (fun _=>AB (A4 rfl Ah Z Z Z)) ?_ | refine AH [2] Z Z (fun _=>AB (A4 rfl Ah Z Z Z)) ?_ | refine AE [2] [] Z Z (fun _=>AB (A6 rfl Ah Z Z Z)) ?_ | refine AH [2] Z Z (fun _=>AB (A6 rfl Ah Z Z Z)) ?_ | refine AE [2] [] Z Z (fun _=>AB (A7 rfl Ah Z Z Z)) ?_ | refine AH [2] Z Z (fun _=>AB (A7 rfl Ah Z Z Z)) ?_ | refine AE [2] [] Z Z (fun _=>AB (A5 rfl Ah Z Z Z)) ?_ | refine AH [2] Z Z (fun _=>AB (A5 rfl Ah Z Z Z)) ?_ | refine AE [2] [] Z Z (fun _=>AB (A3 rfl Ah Z Z Z)) ?_ | refine AH [2] Z Z (fun _=>AB (A3 rfl Ah Z Z Z)) ?_
   first | refine AE [25] [20] Z Z (fun _=>AB (AY Z Z Ax rfl)) ?_ | refine AE [25] [20] Z Z (fun _=>AB (AW Z Z Z Ax rfl)) ?_ | refine AE [25] [20] Z Z (fun _=>AB (AX Z Z (rfl) rfl Ax rfl)) ?_
   first | refine AE [7] [] Z Z (fun _=>AB (Ac Z Z)) ?_ | refine AH [7] Z Z (fun _=>AB (Ac Z Z)) ?_
   first | refine AE [26,27] [] Z Z (fun _=>AB (BN (k) Z Z (rfl) (DG hkl) Try.underlying33 rfl C6 rfl)) ?_ | refine AH [26,27] Z Z (fun _=>AB (BN (k) Z Z (rfl) (DG hkl) Try.underlying33 rfl C6 rfl)) ?_ | refine AE [26,27] [] Z Z (fun _=>AB (BO (k) Z Z (rfl) (DG hkl) rfl Try.underlying33 C6 rfl)) ?_ | refine AH [26,27] Z Z (fun _=>AB (BO (k) Z Z (rfl) (DG hkl) rfl Try.underlying33 C6 rfl)) ?_
   first | refine AE [28] [] Z Z (fun _=>AB (BS Z Z Av rfl)) ?_ | refine AH [28] Z Z (fun _=>AB (BS Z Z Av rfl)) ?_ | refine AE [28] [] Z Z (fun _=>AB (BQ Z Z Av Z Z Z)) ?_ | refine AH [28] Z Z (fun _=>AB (BQ Z Z Av Z Z Z)) ?_ | refine AE [28] [] Z Z (fun _=>AB (BR Z Z (rfl) rfl Av rfl)) ?_ | refine AH [28] Z Z (fun _=>AB (BR Z Z (rfl) rfl Av rfl)) ?_
   first | refine AE [3] [21] Z Z (fun _=>AB (BS Z Z Av rfl)) ?_ | refine AE [3] [21] Z Z (fun _=>AB (BQ Z Z Av Z Z Z)) ?_ | refine AE [3] [21] Z Z (fun _=>AB (BR Z Z (rfl) rfl Av rfl)) ?_
   refine Dl 6 Z Z Z (B9 7 Z Z (J (PS (la:=lwC w.K[k]) (lb:=lwC l) (ds:=lwT) (by kernel_rfl) (by kernel_rfl) (by kernel_rfl) Z Z Z Z (Gi _) (Gi _) (lw_neC _ _) rfl) (AG ⟨rfl,?_⟩)));refine Em ?_
   first | refine BC rfl (fun h31=>?_) (fun h31=>?_) | refine Az rfl (fun h31=>?_) (fun h31=>?_)
   ·refine FH [[],[0],[],[2],[],[2,3,4],[2,3,4,5],[2,3,4,5,6],[0,1,2,3,4,5,6,7],[0,1,2,3,4,5,6,7,8],[0,1,2,3,4,5,6,7,8,9]] mixed rfl (Dk ?_)
    first | refine AE [6] [] Z Z (fun _=>AB (A4 rfl Ah Z Z Z)) ?_ | refine AH [6] Z Z (fun _=>AB (A4 rfl Ah Z Z Z)) ?_ | refine AE [6] [] Z Z (fun _=>AB (A6 rfl Ah Z Z Z)) ?_ | refine AH [6] Z Z (fun _=>AB (A6 rfl Ah Z Z Z)) ?_ | refine AE [6] [] Z Z (fun _=>AB (A7 rfl Ah Z Z Z)) ?_ | refine AH [6] Z Z (fun _=>AB (A7 rfl Ah Z Z Z)) ?_ | refine AE [6] [] Z Z (fun _=>AB (A5 rfl Ah Z Z Z)) ?_ | refine AH [6] Z Z (fun _=>AB (A5 rfl Ah Z Z Z)) ?_ | refine AE [6] [] Z Z (fun _=>AB (A3 rfl Ah Z Z Z)) ?_ | refine AH [6] Z Z (fun _=>AB (A3 rfl Ah Z Z Z)) ?_
    first | refine AE [32] [32] Z Z (fun _=>AB (AY Z Z Ax rfl)) ?_ | refine AE [32] [32] Z Z (fun _=>AB (AW Z Z Z Ax rfl)) ?_ | refine AE [32] [32] Z Z (fun _=>AB (AX Z Z (rfl) rfl Ax rfl)) ?_
    first | refine AE [2] [] Z Z (fun _=>AB (A4 rfl Ah Z Z Z)) ?_ | refine AH [2] Z Z (fun _=>AB (A4 rfl Ah Z Z Z)) ?_ | refine AE [2] [] Z Z (fun _=>AB (A6 rfl Ah Z Z Z)) ?_ | refine AH [2] Z Z (fun _=>AB (A6 rfl Ah Z Z Z)) ?_ | refine AE [2] [] Z Z (fun _=>AB (A7 rfl Ah Z Z Z)) ?_ | refine AH [2] Z Z (fun _=>AB (A7 rfl Ah Z Z Z)) ?_ | refine AE [2] [] Z Z (fun _=>AB (A5 rfl Ah Z Z Z)) ?_ | refine AH [2] Z Z (fun _=>AB (A5 rfl Ah Z Z Z)) ?_ | refine AE [2] [] Z Z (fun _=>AB (A3 rfl Ah Z Z Z)) ?_ | refine AH [2] Z Z (fun _=>AB (A3 rfl Ah Z Z Z)) ?_
    first | refine AE [34] [20] Z Z (fun _=>AB (AY Z Z Ax rfl)) ?_ | refine AE [34] [20] Z Z (fun _=>AB (AW Z Z Z Ax rfl)) ?_ | refine AE [34] [20] Z Z (fun _=>AB (AX Z Z (rfl) rfl Ax rfl)) ?_
    first | refine AE [7] [] Z Z (fun _=>AB (Ac Z Z)) ?_ | refine AH [7] Z Z (fun _=>AB (Ac Z Z)) ?_
    first | refine AE [35,36] [] Z Z (fun _=>AB (BN (k) Z Z (rfl) (DG hkl) Try.underlying33 rfl C6 rfl)) ?_ | refine AH [35,36] Z Z (fun _=>AB (BN (k) Z Z (rfl) (DG hkl) Try.underlying33 rfl C6 rfl)) ?_ | refine AE [35,36] [] Z Z (fun _=>AB (BO (k) Z Z (rfl) (DG hkl) rfl Try.underlying33 C6 rfl)) ?_ | refine AH [35,36] Z Z (fun _=>AB (BO (k) Z Z (rfl) (DG hkl) rfl Try.underlying33 C6 rfl)) ?_
    first | refine AE [37] [] Z Z (fun _=>AB (BS Z Z Av rfl)) ?_ | refine AH [37] Z Z (fun _=>AB (BS Z Z Av rfl)) ?_ | refine AE [37] [] Z Z (fun _=>AB (BQ Z Z Av Z Z Z)) ?_ | refine AH [37] Z Z (fun _=>AB (BQ Z Z Av Z Z Z)) ?_ | refine AE [37] [] Z Z (fun _=>AB (BR Z Z (rfl) rfl Av rfl)) ?_ | refine AH [37] Z Z (fun _=>AB (BR Z Z (rfl) rfl Av rfl)) ?_
    refine CA [38] [34] [(39,_)] Z Z (fun _=>IP (Gx 34 Eo Z Z Z Z Z Z Z Z)) (.inr ⟨39,_,rfl,rfl,rfl,rfl,rfl⟩) Z Z Z Z Z (Dl 8 Z Z Z (B9 9 Z Z ?_))
    first | refine U (JZ (acc) ([w.K[k]]) Z Z Z Z Z Z Z Z Eo (by simp only [List.length_singleton];omega) Z Z Z Z) ?_ | refine U (K5 (acc) ([w.K[k]]) Z Z Z Z Z Z (fun _=>rfl) Eo (by simp only [List.length_singleton];omega) Z Z Z Z) ?_
    refine AG ⟨rfl,?_⟩;refine B9 10 Z Z ?_
    first | refine J (A4 rfl Ah Z Z Z) ?_ | refine J (A6 rfl Ah Z Z Z) ?_ | refine J (A7 rfl Ah Z Z Z) ?_ | refine J (A5 rfl Ah Z Z Z) ?_ | refine J (A3 rfl Ah Z Z Z) ?_
    refine AG ⟨rfl,?_⟩;refine B9 11 Z Z (U (Bq Z Z Z Z Z Z Z sz33) (AG ⟨rfl,?_⟩));refine Em (AI (AC Z Z (J (Cz Z Z (IntWalk.i64_in _ (by omega)) rfl) (AD Z Z (AG ?_)))));exact ⟨(k+1,acc++ [w.K[k]]),⟨hkl,by show _=Ho l w.K (k+1);rw [P2 hkl h31,hacc]⟩,by show w.K.length - (k+1)<w.K.length - k;omega,BK hF [20,21,22,32,33] rfl (rfl) ⟨rfl,rfl,rfl,rfl,rfl,trivial⟩⟩
   ·refine Ak (AI (AC Z Z (J (Cz Z Z (IntWalk.i64_in _ (by omega)) rfl) (AD Z Z (AG ?_)))));exact ⟨(k+1,acc),⟨hkl,by show _=Ho l w.K (k+1);rw [OY hkl (Classical.not_not.1 h31),hacc]⟩,by show w.K.length - (k+1)<w.K.length - k;omega,BK hF [20,21,22,32,33] rfl (rfl) ⟨rfl,rfl,rfl,rfl,rfl,trivial⟩⟩
  ·refine ET (AF (AF ?_));have hke:k=w.K.length:=by have:=h22;omega
   have hac:acc=(CT w l).K:=by rw [hacc,hke];unfold Ho CT;rw [List.take_length]
   refine CO (ys:=acc.map Np) 32 0 1 33 Z Z Z (Nat.le_of_eq (by rw [List.length_map])) (List.take_of_length_le (by rw [List.length_map];exact Nat.le_refl _)) Z Z Z Z Z Z ?_;rw [hac];refine AI ?_
   first | refine J (BS Z Z AL rfl) ?_ | refine J (BQ Z Z AL Z Z Z) ?_ | refine J (BR Z Z (rfl) rfl AL rfl) ?_
   refine J (DZ (CU (CT w l) (hw.sans l) (Nat.le_trans (List.length_filter_le _ _) (by omega))) Z Z) (AC Z Z ?_)
   first | refine J (B5 Z Z Z) ?_ | refine J (B6 Z Z Z) ?_
   first | refine J (B5 Z Z Z) ?_ | refine J (B6 Z Z Z) ?_
   refine AD Z Z (AD Z Z (AG (AF (AI (AC Z Z ?_)))))
   first | refine J (EZ Z Z) ?_ | refine J (EY Z Z) ?_
   refine AG ?_
   first | refine BC rfl (fun h48=>?_) (fun h48=>?_) | refine Az rfl (fun h48=>?_) (fun h48=>?_)
   ·refine AF (AI ?_)
    first | refine J (BS Z Z AL rfl) ?_ | refine J (BQ Z Z AL Z Z Z) ?_ | refine J (BR Z Z (rfl) rfl AL rfl) ?_
    refine U (Bq Z Z Z Z Z Z Z Bf) (AD Z Z (AG (At ?_)));have hc:acyW (CT w l)=false:=by simpa using h48
    exact ⟨_,[],[],Ar rfl,rfl,rfl,by rw [h0,hc];rfl,rfl⟩
   ·refine Ak (AF (AI ?_))
    first | refine J (BS Z Z AL rfl) ?_ | refine J (BQ Z Z AL Z Z Z) ?_ | refine J (BR Z Z (rfl) rfl AL rfl) ?_
    refine U (Bq Z Z Z Z Z Z Z Bf) (AD Z Z (AG (At ?_)));have hc:acyW (CT w l)=true:=by simpa using h48
    exact ⟨_,[],[],Ar rfl,rfl,rfl,by rw [h0,if_pos hc];rfl,rfl⟩
def Hv (x:St) (R:List St) (k:Nat):List St:=(R.take k).filter fun y=>!decide (y=x)
theorem Qk {x:St} {R:List St} {k:Nat} (hk:k<R.length) (h:¬R[k]=x):Hv x R (k+1)=Hv x R k++ [R[k]]:=by
 unfold Hv;rw [List.take_succ_eq_append_getElem hk,List.filter_append];simp [h]
theorem Ou {x:St} {R:List St} {k:Nat} (hk:k<R.length) (h:R[k]=x):Hv x R (k+1)=Hv x R k:=by
 unfold Hv;rw [List.take_succ_eq_append_getElem hk,List.filter_append];simp [h]
theorem Qj (x:St) (R:List St) (k:Nat):(Hv x R k).length≤R.length:=by
 unfold Hv;exact Nat.le_trans (List.length_filter_le _ _) (by rw [List.length_take];omega)
def HW (x:St) (K:List Lw) (k:Nat):List Lw:=(K.take k).filter fun l=>!decide (l.f=x) && !decide (l.r=x)
theorem Qm {x:St} {K:List Lw} {k:Nat} (hk:k<K.length) (h1:¬K[k].f=x) (h2:¬K[k].r=x):HW x K (k+1)=HW x K k++ [K[k]]:=by
 unfold HW;rw [List.take_succ_eq_append_getElem hk,List.filter_append];simp [h1,h2]
theorem KR {x:St} {K:List Lw} {k:Nat} (hk:k<K.length) (h:K[k].f=x∨K[k].r=x):HW x K (k+1)=HW x K k:=by
 unfold HW;rw [List.take_succ_eq_append_getElem hk,List.filter_append];rcases h with h | h<;>simp [h]
theorem Ql (x:St) (K:List Lw) (k:Nat):(HW x K k).length≤K.length:=by
 unfold HW;exact Nat.le_trans (List.length_filter_le _ _) (by rw [List.length_take];omega)
set_option maxHeartbeats 4000000 in
theorem Ll (w:Ws) (hw:B7 w) (hK:w.K.length≤1000000) (x:St):Ba Try.prog 27 [.d (LM w),.d (AU x)] (.tup [LM (remW w x).1,Bt (remW w x).2]):=by
 have hfew:=hw.few;refine DA Try.func27 Z Z Try.ntmps27 Z Z Z fun F hF=>?_;refine AF (AI (U (IT 20 Z Z Z Z Z Z Z) (U (Hm 21 EA Z Z Z Z) (AD Z Z (AG (AF (AF (AI ?_))))))))
 first | refine J (A4 rfl Ag Z Z Z) ?_ | refine J (A6 rfl Ag Z Z Z) ?_ | refine J (A7 rfl Ag Z Z Z) ?_ | refine J (A5 rfl Ag Z Z Z) ?_ | refine J (A3 rfl Ag Z Z Z) ?_
 first | refine J (AY Z Z AT rfl) ?_ | refine J (AW Z Z Z AT rfl) ?_ | refine J (AX Z Z (rfl) rfl AT rfl) ?_
 refine AC Z Z (J (DZ (Bn w.R x (by omega)) Z Z) ?_)
 first | refine J (EZ Z Z) ?_ | refine J (EY Z Z) ?_
 refine AG ?_
 first | refine BC rfl (fun h15=>?_) (fun h15=>?_) | refine Az rfl (fun h15=>?_) (fun h15=>?_)
 ·refine AF (AI ?_)
  first | refine J (BS Z Z AL rfl) ?_ | refine J (BQ Z Z AL Z Z Z) ?_ | refine J (BR Z Z (rfl) rfl AL rfl) ?_
  refine U (Bq Z Z Z Z Z Z Z Bf) (AD Z Z (AG (At ?_)));exact ⟨_,[],[],Ar rfl,rfl,rfl,by rw [rem9 h15],rfl⟩
 ·refine Ak (AF ?_);have hxR:x∈w.R:=Classical.not_not.1 h15;have h0:=rem0 hxR;refine AI (J (Mj EA Lo Z Z Z) (U (Hm 32 EA Z Z Z Z) (U (Bq Z Z Z Z Z Z Z Bf) ?_)));refine AG (AF (AF (AI (AD Z Z (AG (Bc (DV 32 0 0 33 Bg Z Z Z Z Z Z Z (F4 (α:=Nat×List St) (fun q=>⟨86,[(1,.d (AU x)),(2,(.ptr 20 0 0)),(4,(.ptr 21 0 0)),(6,(.ptr 32 0 0)),(7,(.d (natD q.1)))],[JH 20 w,(21,[.blk 35 [.d (.sl (some true) []),.d (.sl (some true) [])]]),(32,[.blk 35 [.own 33 0 q.2.length,.d (.sl (some true) [])]]),(33,[.rowD 9 1 (q.2.map AU)])]⟩) (fun q=>q.1≤w.R.length∧q.2=Hv x w.R q.1) (fun q=>w.R.length - q.1) ((0,[])) (⟨Nat.zero_le _,rfl⟩) (BK hF [20,21,32,33] Z Z ⟨rfl,rfl,rfl,rfl,rfl,trivial⟩) ?_))))))));rintro ⟨k,acc⟩ ⟨hk,hacc⟩;dsimp only at hk hacc⊢;refine AF (AF (AI (AC Z Z ?_)))
  first | refine J (A4 rfl Ag Z Z Z) ?_ | refine J (A6 rfl Ag Z Z Z) ?_ | refine J (A7 rfl Ag Z Z Z) ?_ | refine J (A5 rfl Ag Z Z Z) ?_ | refine J (A3 rfl Ag Z Z Z) ?_
  first | refine J (AY Z Z AT rfl) ?_ | refine J (AW Z Z Z AT rfl) ?_ | refine J (AX Z Z (rfl) rfl AT rfl) ?_
  refine J (CJ rfl (List.length_map ..) Try.underlying32 rfl) ?_
  first | refine J (Es Z Z Z) ?_ | refine J (Ex Z Z Z) ?_
  refine AG ?_
  first | refine BC rfl (fun h22=>?_) (fun h22=>?_) | refine Az rfl (fun h22=>?_) (fun h22=>?_)
  ·refine Ak (AF (Bc (AF ?_)));have hkl:k<w.R.length:=Hl h22;have hal:acc.length≤w.R.length:=by rw [hacc];exact Qj _ _ _
   refine AI ?_
   first | refine J (A4 rfl Ag Z Z Z) ?_ | refine J (A6 rfl Ag Z Z Z) ?_ | refine J (A7 rfl Ag Z Z Z) ?_ | refine J (A5 rfl Ag Z Z Z) ?_ | refine J (A3 rfl Ag Z Z Z) ?_
   first | refine J (AY Z Z AT rfl) ?_ | refine J (AW Z Z Z AT rfl) ?_ | refine J (AX Z Z (rfl) rfl AT rfl) ?_
   refine AC Z Z ?_
   first | refine J (BN (k) Z Z (rfl) (Di hkl) Try.underlying32 rfl EW rfl) ?_ | refine J (BO (k) Z Z (rfl) (Di hkl) rfl Try.underlying32 EW rfl) ?_
   first | refine J (AY Z Z AZ rfl) ?_ | refine J (AW Z Z Z AZ rfl) ?_ | refine J (AX Z Z (rfl) rfl AZ rfl) ?_
   refine AC Z Z ?_
   first | refine J (Gt Z Z Z) ?_ | refine J (Gs Z Z Z) ?_ | refine J (GY Z Z Z) ?_ | refine J (Gu Try.underlying9 Z Z Z) ?_ | refine J (Gw Try.underlying9 Z Z Z) ?_ | refine J (st_neqN Try.underlying9 Z Z) ?_ | refine J (Gr Try.underlying9 Z Z) ?_ | refine J (st_neqMz Try.underlying9 Z Z) ?_ | refine J (Gv Try.underlying9 Z Z Z) ?_ | refine J (st_neqFN Try.underlying9 Z Z) ?_
   refine AG ?_
   first | refine BC rfl (fun h31=>?_) (fun h31=>?_) | refine Az rfl (fun h31=>?_) (fun h31=>?_)
   ·refine FH [[],[0],[],[2],[],[2,3,4],[2,3,4,5],[2,3,4,5,6],[0,1,2,3,4,5,6,7],[0,1,2,3,4,5,6,7,8],[0,1,2,3,4,5,6,7,8,9]] mixed rfl (Dk ?_)
    first | refine AE [6] [] Z Z (fun _=>AB (A4 rfl Ag Z Z Z)) ?_ | refine AH [6] Z Z (fun _=>AB (A4 rfl Ag Z Z Z)) ?_ | refine AE [6] [] Z Z (fun _=>AB (A6 rfl Ag Z Z Z)) ?_ | refine AH [6] Z Z (fun _=>AB (A6 rfl Ag Z Z Z)) ?_ | refine AE [6] [] Z Z (fun _=>AB (A7 rfl Ag Z Z Z)) ?_ | refine AH [6] Z Z (fun _=>AB (A7 rfl Ag Z Z Z)) ?_ | refine AE [6] [] Z Z (fun _=>AB (A5 rfl Ag Z Z Z)) ?_ | refine AH [6] Z Z (fun _=>AB (A5 rfl Ag Z Z Z)) ?_ | refine AE [6] [] Z Z (fun _=>AB (A3 rfl Ag Z Z Z)) ?_ | refine AH [6] Z Z (fun _=>AB (A3 rfl Ag Z Z Z)) ?_
    first | refine AE [32] [32] Z Z (fun _=>AB (AY Z Z AT rfl)) ?_ | refine AE [32] [32] Z Z (fun _=>AB (AW Z Z Z AT rfl)) ?_ | refine AE [32] [32] Z Z (fun _=>AB (AX Z Z (rfl) rfl AT rfl)) ?_
    first | refine AE [2] [] Z Z (fun _=>AB (A4 rfl Ag Z Z Z)) ?_ | refine AH [2] Z Z (fun _=>AB (A4 rfl Ag Z Z Z)) ?_ | refine AE [2] [] Z Z (fun _=>AB (A6 rfl Ag Z Z Z)) ?_ | refine AH [2] Z Z (fun _=>AB (A6 rfl Ag Z Z Z)) ?_ | refine AE [2] [] Z Z (fun _=>AB (A7 rfl Ag Z Z Z)) ?_ | refine AH [2] Z Z (fun _=>AB (A7 rfl Ag Z Z Z)) ?_ | refine AE [2] [] Z Z (fun _=>AB (A5 rfl Ag Z Z Z)) ?_ | refine AH [2] Z Z (fun _=>AB (A5 rfl Ag Z Z Z)) ?_ | refine AE [2] [] Z Z (fun _=>AB (A3 rfl Ag Z Z Z)) ?_ | refine AH [2] Z Z (fun _=>AB (A3 rfl Ag Z Z Z)) ?_
    first | refine AE [34] [20] Z Z (fun _=>AB (AY Z Z AT rfl)) ?_ | refine AE [34] [20] Z Z (fun _=>AB (AW Z Z Z AT rfl)) ?_ | refine AE [34] [20] Z Z (fun _=>AB (AX Z Z (rfl) rfl AT rfl)) ?_
    first | refine AE [7] [] Z Z (fun _=>AB (Ac Z Z)) ?_ | refine AH [7] Z Z (fun _=>AB (Ac Z Z)) ?_
    first | refine AE [35,36] [] Z Z (fun _=>AB (BN (k) Z Z (rfl) (Di hkl) Try.underlying32 rfl EW rfl)) ?_ | refine AH [35,36] Z Z (fun _=>AB (BN (k) Z Z (rfl) (Di hkl) Try.underlying32 rfl EW rfl)) ?_ | refine AE [35,36] [] Z Z (fun _=>AB (BO (k) Z Z (rfl) (Di hkl) rfl Try.underlying32 EW rfl)) ?_ | refine AH [35,36] Z Z (fun _=>AB (BO (k) Z Z (rfl) (Di hkl) rfl Try.underlying32 EW rfl)) ?_
    first | refine AE [37] [] Z Z (fun _=>AB (AY Z Z AZ rfl)) ?_ | refine AH [37] Z Z (fun _=>AB (AY Z Z AZ rfl)) ?_ | refine AE [37] [] Z Z (fun _=>AB (AW Z Z Z AZ rfl)) ?_ | refine AH [37] Z Z (fun _=>AB (AW Z Z Z AZ rfl)) ?_ | refine AE [37] [] Z Z (fun _=>AB (AX Z Z (rfl) rfl AZ rfl)) ?_ | refine AH [37] Z Z (fun _=>AB (AX Z Z (rfl) rfl AZ rfl)) ?_
    refine CA [38] [34] [(39,_)] Z Z (fun _=>IP (Gx 34 Bg Z Z Z Z Z Z Z Z)) (.inr ⟨39,_,rfl,rfl,rfl,rfl,rfl⟩) Z Z Z Z Z (Dl 8 Z Z Z (B9 9 Z Z ?_))
    first | refine U (JZ (acc) ([w.R[k]]) Z Z Z Z Z Z Z Z Bg (by simp only [List.length_singleton];omega) Z Z Z Z) ?_ | refine U (K5 (acc) ([w.R[k]]) Z Z Z Z Z Z (fun _=>rfl) Bg (by simp only [List.length_singleton];omega) Z Z Z Z) ?_
    refine AG ⟨rfl,?_⟩;refine B9 10 Z Z ?_
    first | refine J (A4 rfl Ag Z Z Z) ?_ | refine J (A6 rfl Ag Z Z Z) ?_ | refine J (A7 rfl Ag Z Z Z) ?_ | refine J (A5 rfl Ag Z Z Z) ?_ | refine J (A3 rfl Ag Z Z Z) ?_
    refine AG ⟨rfl,?_⟩;refine B9 11 Z Z (U (Bq Z Z Z Z Z Z Z CE) (AG ⟨rfl,?_⟩));refine Em (AI (AC Z Z (J (Cz Z Z (IntWalk.i64_in _ (by omega)) rfl) (AD Z Z (AG ?_)))));exact ⟨(k+1,acc++ [w.R[k]]),⟨hkl,by show _=Hv x w.R (k+1);rw [Qk hkl h31,hacc]⟩,by show w.R.length - (k+1)<w.R.length - k;omega,BK hF [20,21,32,33] rfl (rfl) ⟨rfl,rfl,rfl,rfl,rfl,trivial⟩⟩
   ·refine Ak (AI (AC Z Z (J (Cz Z Z (IntWalk.i64_in _ (by omega)) rfl) (AD Z Z (AG ?_)))));exact ⟨(k+1,acc),⟨hkl,by show _=Hv x w.R (k+1);rw [Ou hkl (Classical.not_not.1 h31),hacc]⟩,by show w.R.length - (k+1)<w.R.length - k;omega,BK hF [20,21,32,33] rfl (rfl) ⟨rfl,rfl,rfl,rfl,rfl,trivial⟩⟩
  ·refine ET (AF (AF ?_));have hke:k=w.R.length:=by have:=h22;omega
   have hac:acc=(Eg w x).R:=by rw [hacc,hke];unfold Hv Eg;rw [List.take_length]
   refine CO (ys:=acc.map AU) 32 0 0 33 Z Z Z (Nat.le_of_eq (by rw [List.length_map])) (List.take_of_length_le (by rw [List.length_map];exact Nat.le_refl _)) Z Z Z Z Z Z ?_;rw [hac];refine AI (AD Z Z (AG (Bc (DV 32 0 1 35 Eo Z Z Z Z Z Z Z (F4 (α:=Nat×List Lw) (fun q=>⟨86,[(1,.d (AU x)),(2,(.ptr 20 0 0)),(4,(.ptr 21 0 0)),(6,(.ptr 32 0 0)),(8,(.d (natD q.1)))],[JH 20 w,(21,[.blk 35 [.d (.sl (some true) []),.d (.sl (some true) [])]]),(32,[.blk 35 [.d (stsD (Eg w x).R),.own 35 0 q.2.length]]),(35,[.rowD 71 3 (q.2.map Np)])]⟩) (fun q=>q.1≤w.K.length∧q.2=HW x w.K q.1) (fun q=>w.K.length - q.1) ((0,[])) (⟨Nat.zero_le _,rfl⟩) (BK hF [20,21,32,35] Z Z ⟨rfl,rfl,rfl,rfl,rfl,trivial⟩) ?_)))));rintro ⟨k,acc⟩ ⟨hk,hacc⟩;dsimp only at hk hacc⊢;refine AF (AF (AI (AC Z Z ?_)))
   first | refine J (A4 rfl Ah Z Z Z) ?_ | refine J (A6 rfl Ah Z Z Z) ?_ | refine J (A7 rfl Ah Z Z Z) ?_ | refine J (A5 rfl Ah Z Z Z) ?_ | refine J (A3 rfl Ah Z Z Z) ?_
   first | refine J (AY Z Z Ax rfl) ?_ | refine J (AW Z Z Z Ax rfl) ?_ | refine J (AX Z Z (rfl) rfl Ax rfl) ?_
   refine J (CJ rfl (List.length_map ..) Try.underlying33 rfl) ?_
   first | refine J (Es Z Z Z) ?_ | refine J (Ex Z Z Z) ?_
   refine AG ?_
   first | refine BC rfl (fun h46=>?_) (fun h46=>?_) | refine Az rfl (fun h46=>?_) (fun h46=>?_)
   ·refine Ak (AF (Bc (AF ?_)));have hkl:k<w.K.length:=Hl h46;have hal:acc.length≤w.K.length:=by rw [hacc];exact Ql _ _ _
    refine AI ?_
    first | refine J (A4 rfl Ah Z Z Z) ?_ | refine J (A6 rfl Ah Z Z Z) ?_ | refine J (A7 rfl Ah Z Z Z) ?_ | refine J (A5 rfl Ah Z Z Z) ?_ | refine J (A3 rfl Ah Z Z Z) ?_
    first | refine J (AY Z Z Ax rfl) ?_ | refine J (AW Z Z Z Ax rfl) ?_ | refine J (AX Z Z (rfl) rfl Ax rfl) ?_
    refine AC Z Z ?_
    first | refine J (BN (k) Z Z (rfl) (DG hkl) Try.underlying33 rfl C6 rfl) ?_ | refine J (BO (k) Z Z (rfl) (DG hkl) rfl Try.underlying33 C6 rfl) ?_
    first | refine J (A4 rfl CC Z Z Z) ?_ | refine J (A6 rfl CC Z Z Z) ?_ | refine J (A7 rfl CC Z Z Z) ?_ | refine J (A5 rfl CC Z Z Z) ?_ | refine J (A3 rfl CC Z Z Z) ?_
    first | refine J (AY Z Z AZ rfl) ?_ | refine J (AW Z Z Z AZ rfl) ?_ | refine J (AX Z Z (rfl) rfl AZ rfl) ?_
    refine AC Z Z ?_
    first | refine J (Gt Z Z Z) ?_ | refine J (Gs Z Z Z) ?_ | refine J (GY Z Z Z) ?_ | refine J (Gu Try.underlying9 Z Z Z) ?_ | refine J (Gw Try.underlying9 Z Z Z) ?_ | refine J (st_neqN Try.underlying9 Z Z) ?_ | refine J (Gr Try.underlying9 Z Z) ?_ | refine J (st_neqMz Try.underlying9 Z Z) ?_ | refine J (Gv Try.underlying9 Z Z Z) ?_ | refine J (st_neqFN Try.underlying9 Z Z) ?_
    refine AC Z Z ?_
    first | refine JU 57 rfl (fun h57=>?_) (fun h57=>?_) | refine IR 57 rfl (fun h57=>?_) (fun h57=>?_)
    ·refine A1 Z Z Z ?_
     first | refine J (A4 rfl Ah Z Z Z) ?_ | refine J (A6 rfl Ah Z Z Z) ?_ | refine J (A7 rfl Ah Z Z Z) ?_ | refine J (A5 rfl Ah Z Z Z) ?_ | refine J (A3 rfl Ah Z Z Z) ?_
     refine A1 Z Z Z ?_
     first | refine J (AY Z Z Ax rfl) ?_ | refine J (AW Z Z Z Ax rfl) ?_ | refine J (AX Z Z (rfl) rfl Ax rfl) ?_
     refine A1 Z Z Z (AC Z Z (A1 Z Z Z ?_))
     first | refine J (BN (k) Z Z (rfl) (DG hkl) Try.underlying33 rfl C6 rfl) ?_ | refine J (BO (k) Z Z (rfl) (DG hkl) rfl Try.underlying33 C6 rfl) ?_
     refine A1 Z Z Z ?_
     first | refine J (A4 rfl Cc Z Z Z) ?_ | refine J (A6 rfl Cc Z Z Z) ?_ | refine J (A7 rfl Cc Z Z Z) ?_ | refine J (A5 rfl Cc Z Z Z) ?_ | refine J (A3 rfl Cc Z Z Z) ?_
     refine A1 Z Z Z ?_
     first | refine J (AY Z Z AZ rfl) ?_ | refine J (AW Z Z Z AZ rfl) ?_ | refine J (AX Z Z (rfl) rfl AZ rfl) ?_
     refine A1 Z Z Z (AC Z Z (A1 Z Z Z ?_))
     first | refine J (Gt Z Z Z) ?_ | refine J (Gs Z Z Z) ?_ | refine J (GY Z Z Z) ?_ | refine J (Gu Try.underlying9 Z Z Z) ?_ | refine J (Gw Try.underlying9 Z Z Z) ?_ | refine J (st_neqN Try.underlying9 Z Z) ?_ | refine J (Gr Try.underlying9 Z Z) ?_ | refine J (st_neqMz Try.underlying9 Z Z) ?_ | refine J (Gv Try.underlying9 Z Z Z) ?_ | refine J (st_neqFN Try.underlying9 Z Z) ?_
     refine J (Fp Z Z Z Z) (AG ?_)
     first | refine BC rfl (fun h66=>?_) (fun h66=>?_) | refine Az rfl (fun h66=>?_) (fun h66=>?_)
     ·refine FH [[],[0],[],[2],[],[2,3,4],[2,3,4,5],[2,3,4,5,6],[0,1,2,3,4,5,6,7],[0,1,2,3,4,5,6,7,8],[0,1,2,3,4,5,6,7,8,9]] mixed rfl (Dk ?_)
      first | refine AE [6] [] Z Z (fun _=>AB (A4 rfl Ah Z Z Z)) ?_ | refine AH [6] Z Z (fun _=>AB (A4 rfl Ah Z Z Z)) ?_ | refine AE [6] [] Z Z (fun _=>AB (A6 rfl Ah Z Z Z)) ?_ | refine AH [6] Z Z (fun _=>AB (A6 rfl Ah Z Z Z)) ?_ | refine AE [6] [] Z Z (fun _=>AB (A7 rfl Ah Z Z Z)) ?_ | refine AH [6] Z Z (fun _=>AB (A7 rfl Ah Z Z Z)) ?_ | refine AE [6] [] Z Z (fun _=>AB (A5 rfl Ah Z Z Z)) ?_ | refine AH [6] Z Z (fun _=>AB (A5 rfl Ah Z Z Z)) ?_ | refine AE [6] [] Z Z (fun _=>AB (A3 rfl Ah Z Z Z)) ?_ | refine AH [6] Z Z (fun _=>AB (A3 rfl Ah Z Z Z)) ?_
      first | refine AE [67] [32] Z Z (fun _=>AB (AY Z Z Ax rfl)) ?_ | refine AE [67] [32] Z Z (fun _=>AB (AW Z Z Z Ax rfl)) ?_ | refine AE [67] [32] Z Z (fun _=>AB (AX Z Z (rfl) rfl Ax rfl)) ?_
      first | refine AE [2] [] Z Z (fun _=>AB (A4 rfl Ah Z Z Z)) ?_ | refine AH [2] Z Z (fun _=>AB (A4 rfl Ah Z Z Z)) ?_ | refine AE [2] [] Z Z (fun _=>AB (A6 rfl Ah Z Z Z)) ?_ | refine AH [2] Z Z (fun _=>AB (A6 rfl Ah Z Z Z)) ?_ | refine AE [2] [] Z Z (fun _=>AB (A7 rfl Ah Z Z Z)) ?_ | refine AH [2] Z Z (fun _=>AB (A7 rfl Ah Z Z Z)) ?_ | refine AE [2] [] Z Z (fun _=>AB (A5 rfl Ah Z Z Z)) ?_ | refine AH [2] Z Z (fun _=>AB (A5 rfl Ah Z Z Z)) ?_ | refine AE [2] [] Z Z (fun _=>AB (A3 rfl Ah Z Z Z)) ?_ | refine AH [2] Z Z (fun _=>AB (A3 rfl Ah Z Z Z)) ?_
      first | refine AE [69] [20] Z Z (fun _=>AB (AY Z Z Ax rfl)) ?_ | refine AE [69] [20] Z Z (fun _=>AB (AW Z Z Z Ax rfl)) ?_ | refine AE [69] [20] Z Z (fun _=>AB (AX Z Z (rfl) rfl Ax rfl)) ?_
      first | refine AE [8] [] Z Z (fun _=>AB (Ac Z Z)) ?_ | refine AH [8] Z Z (fun _=>AB (Ac Z Z)) ?_
      first | refine AE [70,71] [] Z Z (fun _=>AB (BN (k) Z Z (rfl) (DG hkl) Try.underlying33 rfl C6 rfl)) ?_ | refine AH [70,71] Z Z (fun _=>AB (BN (k) Z Z (rfl) (DG hkl) Try.underlying33 rfl C6 rfl)) ?_ | refine AE [70,71] [] Z Z (fun _=>AB (BO (k) Z Z (rfl) (DG hkl) rfl Try.underlying33 C6 rfl)) ?_ | refine AH [70,71] Z Z (fun _=>AB (BO (k) Z Z (rfl) (DG hkl) rfl Try.underlying33 C6 rfl)) ?_
      first | refine AE [72] [] Z Z (fun _=>AB (BS Z Z Av rfl)) ?_ | refine AH [72] Z Z (fun _=>AB (BS Z Z Av rfl)) ?_ | refine AE [72] [] Z Z (fun _=>AB (BQ Z Z Av Z Z Z)) ?_ | refine AH [72] Z Z (fun _=>AB (BQ Z Z Av Z Z Z)) ?_ | refine AE [72] [] Z Z (fun _=>AB (BR Z Z (rfl) rfl Av rfl)) ?_ | refine AH [72] Z Z (fun _=>AB (BR Z Z (rfl) rfl Av rfl)) ?_
      refine CA [73] [36] [(74,_)] Z Z (fun _=>IP (Gx 36 Eo Z Z Z Z Z Z Z Z)) (.inr ⟨74,_,rfl,rfl,rfl,rfl,rfl⟩) Z Z Z Z Z (Dl 8 Z Z Z (B9 9 Z Z ?_))
      first | refine U (JZ (acc) ([w.K[k]]) Z Z Z Z Z Z Z Z Eo (by simp only [List.length_singleton];omega) Z Z Z Z) ?_ | refine U (K5 (acc) ([w.K[k]]) Z Z Z Z Z Z (fun _=>rfl) Eo (by simp only [List.length_singleton];omega) Z Z Z Z) ?_
      refine AG ⟨rfl,?_⟩;refine B9 10 Z Z ?_
      first | refine J (A4 rfl Ah Z Z Z) ?_ | refine J (A6 rfl Ah Z Z Z) ?_ | refine J (A7 rfl Ah Z Z Z) ?_ | refine J (A5 rfl Ah Z Z Z) ?_ | refine J (A3 rfl Ah Z Z Z) ?_
      refine AG ⟨rfl,?_⟩;refine B9 11 Z Z (U (Bq Z Z Z Z Z Z Z sz33) (AG ⟨rfl,?_⟩));refine Em (AI (AC Z Z (J (Cz Z Z (IntWalk.i64_in _ (by omega)) rfl) (AD Z Z (AG ?_)))));exact ⟨(k+1,acc++ [w.K[k]]),⟨hkl,by show _=HW x w.K (k+1);rw [Qm hkl h57 h66,hacc]⟩,by show w.K.length - (k+1)<w.K.length - k;omega,BK hF [20,21,32,35] rfl (rfl) ⟨rfl,rfl,rfl,rfl,rfl,trivial⟩⟩
     ·refine Ak (AI (AC Z Z (J (Cz Z Z (IntWalk.i64_in _ (by omega)) rfl) (AD Z Z (AG ?_)))));exact ⟨(k+1,acc),⟨hkl,by show _=HW x w.K (k+1);rw [KR hkl (by first | exact .inr (Classical.not_not.1 h66) | exact .inl (Classical.not_not.1 h57)),hacc]⟩,by show w.K.length - (k+1)<w.K.length - k;omega,BK hF [20,21,32,35] rfl (rfl) ⟨rfl,rfl,rfl,rfl,rfl,trivial⟩⟩
    ·refine BA Z Z Z Z (BA Z Z Z Z (BA Z Z Z Z (BA Z Z Z Z (BA Z Z Z Z (BA Z Z Z Z (BA Z Z Z Z (BA Z Z Z Z ?_)))))));refine J (Fo Z Z Z Z) (AG (D0 Z Z (Ak (AI (AC Z Z (J (Cz Z Z (IntWalk.i64_in _ (by omega)) rfl) (AD Z Z (AG ?_))))))));exact ⟨(k+1,acc),⟨hkl,by show _=HW x w.K (k+1);rw [KR hkl (by first | exact .inr (Classical.not_not.1 h66) | exact .inl (Classical.not_not.1 h57)),hacc]⟩,by show w.K.length - (k+1)<w.K.length - k;omega,BK hF [20,21,32,35] rfl (rfl) ⟨rfl,rfl,rfl,rfl,rfl,trivial⟩⟩
   ·refine ET (AF (AF ?_));have hke:k=w.K.length:=by have:=h46;omega
    have hac:acc=(Eg w x).K:=by rw [hacc,hke];unfold HW Eg;rw [List.take_length]
    refine CO (ys:=acc.map Np) 32 0 1 35 Z Z Z (Nat.le_of_eq (by rw [List.length_map])) (List.take_of_length_le (by rw [List.length_map];exact Nat.le_refl _)) Z Z Z Z Z Z ?_;rw [hac];refine AI ?_
    first | refine J (BS Z Z AL rfl) ?_ | refine J (BQ Z Z AL Z Z Z) ?_ | refine J (BR Z Z (rfl) rfl AL rfl) ?_
    refine J (DZ (CU (Eg w x) (hw.cut x) (Nat.le_trans (List.length_filter_le _ _) (by omega))) Z Z) (AC Z Z ?_)
    first | refine J (B5 Z Z Z) ?_ | refine J (B6 Z Z Z) ?_
    first | refine J (B5 Z Z Z) ?_ | refine J (B6 Z Z Z) ?_
    refine AD Z Z (AD Z Z (AG (AF (AI (AC Z Z ?_)))))
    first | refine J (EZ Z Z) ?_ | refine J (EY Z Z) ?_
    refine AG ?_
    first | refine BC rfl (fun h83=>?_) (fun h83=>?_) | refine Az rfl (fun h83=>?_) (fun h83=>?_)
    ·refine AF (AI ?_)
     first | refine J (BS Z Z AL rfl) ?_ | refine J (BQ Z Z AL Z Z Z) ?_ | refine J (BR Z Z (rfl) rfl AL rfl) ?_
     refine U (Bq Z Z Z Z Z Z Z Bf) (AD Z Z (AG (At ?_)));have hc:acyW (Eg w x)=false:=by simpa using h83
     exact ⟨_,[],[],Ar rfl,rfl,rfl,by rw [h0,hc];rfl,rfl⟩
    ·refine Ak (AF (AI ?_))
     first | refine J (BS Z Z AL rfl) ?_ | refine J (BQ Z Z AL Z Z Z) ?_ | refine J (BR Z Z (rfl) rfl AL rfl) ?_
     refine U (Bq Z Z Z Z Z Z Z Bf) (AD Z Z (AG (At ?_)));have hc:acyW (Eg w x)=true:=by simpa using h83
     exact ⟨_,[],[],Ar rfl,rfl,rfl,by rw [h0,if_pos hc],rfl⟩
abbrev JO.lw (o:JO):Lw:=⟨o.x,o.l.t,o.l.r⟩
noncomputable def opW (w:Ws) (o:JO):Ws×Int:=
 if o.k=0 then addW w o.x else if o.k=1 then lnkW w o.lw else if o.k=2 then unlW w o.lw else if o.k=3 then remW w o.x else (w,0)
theorem Ps {w:Ws} {o:JO} (h:o.k=0):opW w o=addW w o.x:=if_pos h
theorem Pr {w:Ws} {o:JO} (h:o.k=1):opW w o=lnkW w o.lw:=by unfold opW;rw [if_neg (by omega),if_pos h]
theorem Pq {w:Ws} {o:JO} (h:o.k=2):opW w o=unlW w o.lw:=by unfold opW;rw [if_neg (by omega),if_neg (by omega),if_pos h]
theorem Pp {w:Ws} {o:JO} (h:o.k=3):opW w o=remW w o.x:=by unfold opW;rw [if_neg (by omega),if_neg (by omega),if_neg (by omega),if_pos h]
theorem Po {w:Ws} {o:JO} (h0:¬o.k=0) (h1:¬o.k=1) (h2:¬o.k=2) (h3:¬o.k=3):opW w o=(w,0):=by unfold opW;rw [if_neg h0,if_neg h1,if_neg h2,if_neg h3]
theorem Cu.op {w:Ws} {n:Nat} (h:Cu w n) (o:JO):Cu (opW w o).1 (n+1):=by
 unfold opW
 split
 ·exact h.add _
 split
 ·exact h.lnk _
 split
 ·exact (h.unl _).mono (Nat.le_succ _)
 split
 ·exact (h.rem _).mono (Nat.le_succ _)
 ·exact h.mono (Nat.le_succ _)
set_option maxHeartbeats 1000000 in
theorem model_p (w:Ws) (hw:B7 w) (hK:w.K.length≤1000000) (o:JO):Ba Try.prog 15 [.d (LM w),.d (opD o)] (.tup [LM (opW w o).1,Bt (opW w o).2]):=by
 refine DA Try.func15 Z Z Try.ntmps15 Z Z Z fun F hF=>?_;refine AF (AI (U (IT 20 Z Z Z Z Z Z Z) (U (IT 21 Z Z Z Z Z Z Z) (U (Hm 22 EA Z Z Z Z) (AD Z Z (AG (AF (AI ?_))))))))
 first | refine J (A4 rfl F6 Z Z Z) ?_ | refine J (A6 rfl F6 Z Z Z) ?_ | refine J (A7 rfl F6 Z Z Z) ?_ | refine J (A5 rfl F6 Z Z Z) ?_ | refine J (A3 rfl F6 Z Z Z) ?_
 first | refine J (AY Z Z AZ rfl) ?_ | refine J (AW Z Z Z AZ rfl) ?_ | refine J (AX Z Z (rfl) rfl AZ rfl) ?_
 first | refine J (A4 rfl KZ Z Z Z) ?_ | refine J (A6 rfl KZ Z Z Z) ?_ | refine J (A7 rfl KZ Z Z Z) ?_ | refine J (A5 rfl KZ Z Z Z) ?_ | refine J (A3 rfl KZ Z Z Z) ?_
 first | refine J (A4 rfl Hx Z Z Z) ?_ | refine J (A6 rfl Hx Z Z Z) ?_ | refine J (A7 rfl Hx Z Z Z) ?_ | refine J (A5 rfl Hx Z Z Z) ?_ | refine J (A3 rfl Hx Z Z Z) ?_
 first | refine J (AY Z Z Be rfl) ?_ | refine J (AW Z Z Z Be rfl) ?_ | refine J (AX Z Z (rfl) rfl Be rfl) ?_
 first | refine J (A4 rfl KZ Z Z Z) ?_ | refine J (A6 rfl KZ Z Z Z) ?_ | refine J (A7 rfl KZ Z Z Z) ?_ | refine J (A5 rfl KZ Z Z Z) ?_ | refine J (A3 rfl KZ Z Z Z) ?_
 first | refine J (A4 rfl CB Z Z Z) ?_ | refine J (A6 rfl CB Z Z Z) ?_ | refine J (A7 rfl CB Z Z Z) ?_ | refine J (A5 rfl CB Z Z Z) ?_ | refine J (A3 rfl CB Z Z Z) ?_
 first | refine J (AY Z Z AZ rfl) ?_ | refine J (AW Z Z Z AZ rfl) ?_ | refine J (AX Z Z (rfl) rfl AZ rfl) ?_
 refine J (Mj zl71 pl71 Z Z Z) (U (Hm 23 zl71 Z Z Z Z) (U (Bq Z Z Z Z Z Z Z C6) (AG (AF (AF (AI ?_))))))
 first | refine J (A4 rfl Dv Z Z Z) ?_ | refine J (A6 rfl Dv Z Z Z) ?_ | refine J (A7 rfl Dv Z Z Z) ?_ | refine J (A5 rfl Dv Z Z Z) ?_ | refine J (A3 rfl Dv Z Z Z) ?_
 first | refine J (AY Z Z Be rfl) ?_ | refine J (AW Z Z Z Be rfl) ?_ | refine J (AX Z Z (rfl) rfl Be rfl) ?_
 refine AG (Bc (AF (AI ?_)))
 first | refine J (Er Z Z Z) ?_ | refine J (FF Z Z Z) ?_ | refine J (En Z Z Z) ?_ | refine J (Et Try.underlying3 Z Z Z) ?_ | refine J (Ew Try.underlying3 Z Z Z) ?_ | refine J (Ev Try.underlying3 Z Z) ?_ | refine J (FE Try.underlying3 Z Z) ?_ | refine J (Ez Try.underlying3 Z Z) ?_ | refine J (Eu Try.underlying3 Z Z Z) ?_ | refine J (Ey Try.underlying3 Z Z) ?_
 refine AD Z Z (AG ?_)
 first | refine BC rfl (fun h18=>?_) (fun h18=>?_) | refine Az rfl (fun h18=>?_) (fun h18=>?_)
 ·refine AF (AI ?_)
  first | refine J (BS Z Z AL rfl) ?_ | refine J (BQ Z Z AL Z Z Z) ?_ | refine J (BR Z Z (rfl) rfl AL rfl) ?_
  first | refine J (A4 rfl F6 Z Z Z) ?_ | refine J (A6 rfl F6 Z Z Z) ?_ | refine J (A7 rfl F6 Z Z Z) ?_ | refine J (A5 rfl F6 Z Z Z) ?_ | refine J (A3 rfl F6 Z Z Z) ?_
  first | refine J (AY Z Z AZ rfl) ?_ | refine J (AW Z Z Z AZ rfl) ?_ | refine J (AX Z Z (rfl) rfl AZ rfl) ?_
  refine J (DZ (Pc w hw o.x) Z Z) ?_
  first | refine J (B5 Z Z Z) ?_ | refine J (B6 Z Z Z) ?_
  first | refine J (B5 Z Z Z) ?_ | refine J (B6 Z Z Z) ?_
  refine U (Bq Z Z Z Z Z Z Z Bf) (AD Z Z (AG (At ?_)));exact ⟨_,[],[],Ar rfl,rfl,rfl,by rw [Ps h18],rfl⟩
 ·refine AF (AI ?_)
  first | refine J (Er Z Z Z) ?_ | refine J (FF Z Z Z) ?_ | refine J (En Z Z Z) ?_ | refine J (Et Try.underlying3 Z Z Z) ?_ | refine J (Ew Try.underlying3 Z Z Z) ?_ | refine J (Ev Try.underlying3 Z Z) ?_ | refine J (FE Try.underlying3 Z Z) ?_ | refine J (Ez Try.underlying3 Z Z) ?_ | refine J (Eu Try.underlying3 Z Z Z) ?_ | refine J (Ey Try.underlying3 Z Z) ?_
  refine AD Z Z (AG ?_)
  first | refine BC rfl (fun h26=>?_) (fun h26=>?_) | refine Az rfl (fun h26=>?_) (fun h26=>?_)
  ·refine AF (AI ?_)
   first | refine J (BS Z Z AL rfl) ?_ | refine J (BQ Z Z AL Z Z Z) ?_ | refine J (BR Z Z (rfl) rfl AL rfl) ?_
   first | refine J (BS Z Z Av rfl) ?_ | refine J (BQ Z Z Av Z Z Z) ?_ | refine J (BR Z Z (rfl) rfl Av rfl) ?_
   refine J (DZ (Kj w hw hK o.lw) Z Z) ?_
   first | refine J (B5 Z Z Z) ?_ | refine J (B6 Z Z Z) ?_
   first | refine J (B5 Z Z Z) ?_ | refine J (B6 Z Z Z) ?_
   refine U (Bq Z Z Z Z Z Z Z Bf) (AD Z Z (AG (At ?_)));exact ⟨_,[],[],Ar rfl,rfl,rfl,by rw [Pr h26],rfl⟩
  ·refine AF (AI ?_)
   first | refine J (Er Z Z Z) ?_ | refine J (FF Z Z Z) ?_ | refine J (En Z Z Z) ?_ | refine J (Et Try.underlying3 Z Z Z) ?_ | refine J (Ew Try.underlying3 Z Z Z) ?_ | refine J (Ev Try.underlying3 Z Z) ?_ | refine J (FE Try.underlying3 Z Z) ?_ | refine J (Ez Try.underlying3 Z Z) ?_ | refine J (Eu Try.underlying3 Z Z Z) ?_ | refine J (Ey Try.underlying3 Z Z) ?_
   refine AD Z Z (AG ?_)
   first | refine BC rfl (fun h33=>?_) (fun h33=>?_) | refine Az rfl (fun h33=>?_) (fun h33=>?_)
   ·refine AF (AI ?_)
    first | refine J (BS Z Z AL rfl) ?_ | refine J (BQ Z Z AL Z Z Z) ?_ | refine J (BR Z Z (rfl) rfl AL rfl) ?_
    first | refine J (BS Z Z Av rfl) ?_ | refine J (BQ Z Z Av Z Z Z) ?_ | refine J (BR Z Z (rfl) rfl Av rfl) ?_
    refine J (DZ (Lj w hw hK o.lw) Z Z) ?_
    first | refine J (B5 Z Z Z) ?_ | refine J (B6 Z Z Z) ?_
    first | refine J (B5 Z Z Z) ?_ | refine J (B6 Z Z Z) ?_
    refine U (Bq Z Z Z Z Z Z Z Bf) (AD Z Z (AG (At ?_)));exact ⟨_,[],[],Ar rfl,rfl,rfl,by rw [Pq h33],rfl⟩
   ·refine AF (AI ?_)
    first | refine J (Er Z Z Z) ?_ | refine J (FF Z Z Z) ?_ | refine J (En Z Z Z) ?_ | refine J (Et Try.underlying3 Z Z Z) ?_ | refine J (Ew Try.underlying3 Z Z Z) ?_ | refine J (Ev Try.underlying3 Z Z) ?_ | refine J (FE Try.underlying3 Z Z) ?_ | refine J (Ez Try.underlying3 Z Z) ?_ | refine J (Eu Try.underlying3 Z Z Z) ?_ | refine J (Ey Try.underlying3 Z Z) ?_
    refine AD Z Z (AG ?_)
    first | refine BC rfl (fun h40=>?_) (fun h40=>?_) | refine Az rfl (fun h40=>?_) (fun h40=>?_)
    ·refine AF (AI ?_)
     first | refine J (BS Z Z AL rfl) ?_ | refine J (BQ Z Z AL Z Z Z) ?_ | refine J (BR Z Z (rfl) rfl AL rfl) ?_
     first | refine J (A4 rfl F6 Z Z Z) ?_ | refine J (A6 rfl F6 Z Z Z) ?_ | refine J (A7 rfl F6 Z Z Z) ?_ | refine J (A5 rfl F6 Z Z Z) ?_ | refine J (A3 rfl F6 Z Z Z) ?_
     first | refine J (AY Z Z AZ rfl) ?_ | refine J (AW Z Z Z AZ rfl) ?_ | refine J (AX Z Z (rfl) rfl AZ rfl) ?_
     refine J (DZ (Ll w hw hK o.x) Z Z) ?_
     first | refine J (B5 Z Z Z) ?_ | refine J (B6 Z Z Z) ?_
     first | refine J (B5 Z Z Z) ?_ | refine J (B6 Z Z Z) ?_
     refine U (Bq Z Z Z Z Z Z Z Bf) (AD Z Z (AG (At ?_)));exact ⟨_,[],[],Ar rfl,rfl,rfl,by rw [Pp h40],rfl⟩
    ·refine Ak (AF (AI ?_))
     first | refine J (BS Z Z AL rfl) ?_ | refine J (BQ Z Z AL Z Z Z) ?_ | refine J (BR Z Z (rfl) rfl AL rfl) ?_
     refine U (Bq Z Z Z Z Z Z Z Bf) (AD Z Z (AG (At ?_)));exact ⟨_,[],[],Ar rfl,rfl,rfl,by rw [Po h18 h26 h33 h40],rfl⟩
set_option maxHeartbeats 1000000 in
theorem do_c {M:MF} {b:Nat} {w:Ws} (h:BU M b w) (hw:B7 w) (hK:w.K.length≤999999) (o:JO):AR Try.prog 16 [.d (pD b 0),.d (opD o)] [(40,[.multi M])] fun r H'=>∃M',r= .d (Bt (opW w o).2)∧H'=[(40,[.multi M'])]∧BU M' b (opW w o).1:=by
 refine DA Try.func16 Z Z Try.ntmps16 Z Z Z fun F hF=>(AF (AI (U (IT 20 Z Z Z Z Z Z Z) (AD Z Z (AG (AF (AF (AI ?_))))))))
 first | refine J (A4 rfl Dv Z Z Z) ?_ | refine J (A6 rfl Dv Z Z Z) ?_ | refine J (A7 rfl Dv Z Z Z) ?_ | refine J (A5 rfl Dv Z Z Z) ?_ | refine J (A3 rfl Dv Z Z Z) ?_
 first | refine J (AY Z Z Be rfl) ?_ | refine J (AW Z Z Z Be rfl) ?_ | refine J (AX Z Z (rfl) rfl Be rfl) ?_
 refine AG (Bc (AF (AI ?_)))
 first | refine J (Er Z Z Z) ?_ | refine J (FF Z Z Z) ?_ | refine J (En Z Z Z) ?_ | refine J (Et Try.underlying3 Z Z Z) ?_ | refine J (Ew Try.underlying3 Z Z Z) ?_ | refine J (Ev Try.underlying3 Z Z) ?_ | refine J (FE Try.underlying3 Z Z) ?_ | refine J (Ez Try.underlying3 Z Z) ?_ | refine J (Eu Try.underlying3 Z Z Z) ?_ | refine J (Ey Try.underlying3 Z Z) ?_
 refine AD Z Z (AG ?_)
 first | refine BC rfl (fun h7=>?_) (fun h7=>?_) | refine Az rfl (fun h7=>?_) (fun h7=>?_)
 ·refine AF (AI (AC Z Z ?_))
  first | refine J (A4 rfl F6 Z Z Z) ?_ | refine J (A6 rfl F6 Z Z Z) ?_ | refine J (A7 rfl F6 Z Z Z) ?_ | refine J (A5 rfl F6 Z Z Z) ?_ | refine J (A3 rfl F6 Z Z Z) ?_
  first | refine J (AY Z Z AZ rfl) ?_ | refine J (AW Z Z Z AZ rfl) ?_ | refine J (AX Z Z (rfl) rfl AZ rfl) ?_
  refine HZ (IS (OA h hw o.x) rfl [40] ⟨rfl,trivial⟩ Z Z Z Z (fun r H' ⟨M,e1,e2,_⟩=>by subst e1 e2;exact ⟨rfl,rfl,rfl⟩) rfl) rfl ?_;rintro _ ⟨r,H',⟨M1,e1,e2,h1⟩,rfl⟩;subst e1 e2;refine AD Z Z (AG (At ?_));exact ⟨_,[40],_,Ar rfl,rfl,rfl,M1,by rw [Ps h7],rfl,by rw [Ps h7];exact h1⟩
 ·refine AF (AI ?_)
  first | refine J (Er Z Z Z) ?_ | refine J (FF Z Z Z) ?_ | refine J (En Z Z Z) ?_ | refine J (Et Try.underlying3 Z Z Z) ?_ | refine J (Ew Try.underlying3 Z Z Z) ?_ | refine J (Ev Try.underlying3 Z Z) ?_ | refine J (FE Try.underlying3 Z Z) ?_ | refine J (Ez Try.underlying3 Z Z) ?_ | refine J (Eu Try.underlying3 Z Z Z) ?_ | refine J (Ey Try.underlying3 Z Z) ?_
  refine AD Z Z (AG ?_)
  first | refine BC rfl (fun h13=>?_) (fun h13=>?_) | refine Az rfl (fun h13=>?_) (fun h13=>?_)
  ·refine AF (AI (AC Z Z ?_))
   first | refine J (A4 rfl F6 Z Z Z) ?_ | refine J (A6 rfl F6 Z Z Z) ?_ | refine J (A7 rfl F6 Z Z Z) ?_ | refine J (A5 rfl F6 Z Z Z) ?_ | refine J (A3 rfl F6 Z Z Z) ?_
   first | refine J (AY Z Z AZ rfl) ?_ | refine J (AW Z Z Z AZ rfl) ?_ | refine J (AX Z Z (rfl) rfl AZ rfl) ?_
   first | refine J (A4 rfl KZ Z Z Z) ?_ | refine J (A6 rfl KZ Z Z Z) ?_ | refine J (A7 rfl KZ Z Z Z) ?_ | refine J (A5 rfl KZ Z Z Z) ?_ | refine J (A3 rfl KZ Z Z Z) ?_
   first | refine J (BS Z Z Aj rfl) ?_ | refine J (BQ Z Z Aj Z Z Z) ?_ | refine J (BR Z Z (rfl) rfl Aj rfl) ?_
   refine HZ (IS (Ip h hw hK o.lw) rfl [40] ⟨rfl,trivial⟩ Z Z Z Z (fun r H' ⟨M,e1,e2,_⟩=>by subst e1 e2;exact ⟨rfl,rfl,rfl⟩) rfl) rfl ?_;rintro _ ⟨r,H',⟨M1,e1,e2,h1⟩,rfl⟩;subst e1 e2;refine AD Z Z (AG (At ?_));exact ⟨_,[40],_,Ar rfl,rfl,rfl,M1,by rw [Pr h13],rfl,by rw [Pr h13];exact h1⟩
  ·refine AF (AI ?_)
   first | refine J (Er Z Z Z) ?_ | refine J (FF Z Z Z) ?_ | refine J (En Z Z Z) ?_ | refine J (Et Try.underlying3 Z Z Z) ?_ | refine J (Ew Try.underlying3 Z Z Z) ?_ | refine J (Ev Try.underlying3 Z Z) ?_ | refine J (FE Try.underlying3 Z Z) ?_ | refine J (Ez Try.underlying3 Z Z) ?_ | refine J (Eu Try.underlying3 Z Z Z) ?_ | refine J (Ey Try.underlying3 Z Z) ?_
   refine AD Z Z (AG ?_)
   first | refine BC rfl (fun h21=>?_) (fun h21=>?_) | refine Az rfl (fun h21=>?_) (fun h21=>?_)
   ·refine AF (AI (AC Z Z ?_))
    first | refine J (A4 rfl F6 Z Z Z) ?_ | refine J (A6 rfl F6 Z Z Z) ?_ | refine J (A7 rfl F6 Z Z Z) ?_ | refine J (A5 rfl F6 Z Z Z) ?_ | refine J (A3 rfl F6 Z Z Z) ?_
    first | refine J (AY Z Z AZ rfl) ?_ | refine J (AW Z Z Z AZ rfl) ?_ | refine J (AX Z Z (rfl) rfl AZ rfl) ?_
    first | refine J (A4 rfl KZ Z Z Z) ?_ | refine J (A6 rfl KZ Z Z Z) ?_ | refine J (A7 rfl KZ Z Z Z) ?_ | refine J (A5 rfl KZ Z Z Z) ?_ | refine J (A3 rfl KZ Z Z Z) ?_
    first | refine J (BS Z Z Aj rfl) ?_ | refine J (BQ Z Z Aj Z Z Z) ?_ | refine J (BR Z Z (rfl) rfl Aj rfl) ?_
    refine HZ (IS (LV h hw (by omega) o.lw) rfl [40] ⟨rfl,trivial⟩ Z Z Z Z (fun r H' ⟨M,e1,e2,_⟩=>by subst e1 e2;exact ⟨rfl,rfl,rfl⟩) rfl) rfl ?_;rintro _ ⟨r,H',⟨M1,e1,e2,h1⟩,rfl⟩;subst e1 e2;refine AD Z Z (AG (At ?_));exact ⟨_,[40],_,Ar rfl,rfl,rfl,M1,by rw [Pq h21],rfl,by rw [Pq h21];exact h1⟩
   ·refine AF (AI ?_)
    first | refine J (Er Z Z Z) ?_ | refine J (FF Z Z Z) ?_ | refine J (En Z Z Z) ?_ | refine J (Et Try.underlying3 Z Z Z) ?_ | refine J (Ew Try.underlying3 Z Z Z) ?_ | refine J (Ev Try.underlying3 Z Z) ?_ | refine J (FE Try.underlying3 Z Z) ?_ | refine J (Ez Try.underlying3 Z Z) ?_ | refine J (Eu Try.underlying3 Z Z Z) ?_ | refine J (Ey Try.underlying3 Z Z) ?_
    refine AD Z Z (AG ?_)
    first | refine BC rfl (fun h29=>?_) (fun h29=>?_) | refine Az rfl (fun h29=>?_) (fun h29=>?_)
    ·refine AF (AI (AC Z Z ?_))
     first | refine J (A4 rfl F6 Z Z Z) ?_ | refine J (A6 rfl F6 Z Z Z) ?_ | refine J (A7 rfl F6 Z Z Z) ?_ | refine J (A5 rfl F6 Z Z Z) ?_ | refine J (A3 rfl F6 Z Z Z) ?_
     first | refine J (AY Z Z AZ rfl) ?_ | refine J (AW Z Z Z AZ rfl) ?_ | refine J (AX Z Z (rfl) rfl AZ rfl) ?_
     refine HZ (IS (Pb h hw (by omega) o.x) rfl [40] ⟨rfl,trivial⟩ Z Z Z Z (fun r H' ⟨M,e1,e2,_⟩=>by subst e1 e2;exact ⟨rfl,rfl,rfl⟩) rfl) rfl ?_;rintro _ ⟨r,H',⟨M1,e1,e2,h1⟩,rfl⟩;subst e1 e2;refine AD Z Z (AG (At ?_));exact ⟨_,[40],_,Ar rfl,rfl,rfl,M1,by rw [Pp h29],rfl,by rw [Pp h29];exact h1⟩
    ·refine Ak (AF (AI (AD Z Z (AG (At ?_)))));exact ⟨_,[40],_,Ar rfl,rfl,rfl,M,by rw [Po h7 h13 h21 h29],rfl,by rw [Po h7 h13 h21 h29];exact h⟩
abbrev Pk (l:List JO):D:= .sl none (l.map opD)
theorem few_p (l:List JO) (hl:l.length≤140737488355328):Ba Try.prog 14 [.d (Pk l)] (Pk (l.take 24)):=by
 refine DA Try.func14 Z Z Try.ntmps14 Z Z Z fun F hF=>?_;refine AF (AI (AD Z Z (AG (AF (AI (AC Z Z (AC Z Z (J (CJ rfl (List.length_map ..) Try.underlying30 rfl) ?_))))))))
 obtain ⟨m,hm,hm1,hm2⟩:∃m:Nat,(if (24:Int)<(l.length:Int) then (24:Int) else (l.length:Int))=(m:Int)∧m≤l.length∧l.take m=l.take 24:=⟨min l.length 24,by omega,by omega,by rw [Nat.min_comm,←List.take_take,List.take_length]⟩
 refine J (st_min Z Z (hm) rfl) ?_
 first | refine J (Ms (m) Z Z Z (by rw [List.length_map];exact hm1) Try.underlying30 LY (by simp [D.cells,byteD]) (List.map_take.symm) rfl) ?_ | refine J (Jg (m) Z Z Z (by rw [List.length_map];exact hm1) rfl Try.underlying30 LY rfl) ?_
 refine AD Z Z (AG (At ?_));exact ⟨_,[],[],Ar rfl,rfl,rfl,by rw [hm2],rfl⟩
theorem Cs {l:List Grp} {k:Nat} (h:k<l.length):(l.map Hu)[k]?=some (Hu l[k]):=by
 rw [List.getElem?_map,List.getElem?_eq_getElem h];rfl
set_option maxHeartbeats 4000000 in
theorem seen_c {M:MF} {b:Nat} {w:Ws} (h:BU M b w) (hw:B7 w) (hac:acyW w=true) (hK:w.K.length≤1000000) (hg1:(groupsW w).length≤1000000) (hg2:∀g∈groupsW w,g.m.length≤1000000∧g.a.length≤1000000):AR Try.prog 17 [.d (pD b 0),.d (LM w)] [(40,[.multi M])] fun r H'=>r= .d (An true)∧H'=[(40,[.multi M])]:=by
 have hgd:gD w=DF (groupsW w):=if_pos hac
 obtain ⟨G,hG⟩:∃G,groupsW w=G:=⟨_,rfl⟩
 rw [hG] at hgd hg1 hg2;refine DA Try.func17 Z Z Try.ntmps17 Z Z Z fun F hF=>(AF (AI (U (IT 20 Z Z Z Z Z Z Z) (AD Z Z ?_))));refine AG (AF (AI (AC Z Z (U (F5 (MX h hw hK) rfl [40] ⟨rfl,trivial⟩ Z Z Z Z Z Z Z Z Z) (AD Z Z (AG (AF (AI ?_))))))))
 first | refine J (BS Z Z AL rfl) ?_ | refine J (BQ Z Z AL Z Z Z) ?_ | refine J (BR Z Z (rfl) rfl AL rfl) ?_
 refine J (DZ (CU w hw (by omega)) Z Z) (AC Z Z ?_)
 first | refine J (B5 Z Z Z) ?_ | refine J (B6 Z Z Z) ?_
 first | refine J (B5 Z Z Z) ?_ | refine J (B6 Z Z Z) ?_
 refine AD Z Z (AD Z Z (AG (AF (AF ?_))));rw [hgd,hac,hG];refine FH [[],[0],[0,1],[0,1,2],[0,1,2,3],[0,1,2],[0,1,2,5],[0,1,2,3,4,5,6],[0,1,2,3,4,5,6,7],[0,1,2,3,4,5,6,7,8],[0,1,2,3,4,5,6,7,8,9],[0,1,2,3,4,5,6,7,8,9,10],[0,1,2,3,4,5,6,7,8,9],[0,1,2,3,4,5,6,7,8,9,12],[0,1,2,3,4,5,6,7,8,9,12,13],[0,1,2,3,4,5,6,7,8,9,10,11,12,13,14],[0,1,2,3,4,5,6,7,8,9,10,11,12,13,14,15]] mixed rfl (B9 1 Z Z (AC Z Z (AG ⟨rfl,?_⟩)));refine B9 2 Z Z ?_
 first | refine J (EZ Z Z) ?_ | refine J (EY Z Z) ?_
 refine AG ⟨rfl,?_⟩;refine B9 3 Z Z (AC Z Z (Ds 19 rfl (rfl) (AG ⟨rfl,?_⟩)));refine Dk ?_
 first | refine AE [5,19] [] Z Z (fun _=>Aw Z Z Z (Ac Z Z)) ?_ | refine AH [5,19] Z Z (fun _=>Aw Z Z Z (Ac Z Z)) ?_
 first | refine AE [20,19] [] Z Z (fun _=>Aw Z Z Z (CJ rfl (List.length_map ..) Try.underlying47 rfl)) ?_ | refine AH [20,19] Z Z (fun _=>Aw Z Z Z (CJ rfl (List.length_map ..) Try.underlying47 rfl)) ?_
 first | refine AE [6,19] [] Z Z (fun _=>Aw Z Z Z (Ac Z Z)) ?_ | refine AH [6,19] Z Z (fun _=>Aw Z Z Z (Ac Z Z)) ?_
 first | refine AE [22,19] [] Z Z (fun _=>Aw Z Z Z (CJ rfl (List.length_map ..) Try.underlying73 rfl)) ?_ | refine AH [22,19] Z Z (fun _=>Aw Z Z Z (CJ rfl (List.length_map ..) Try.underlying73 rfl)) ?_
 refine Dl 7 Z Z Z (B9 8 Z Z (A1 Z Z Z ?_))
 first | refine J (Gt Z Z Z) ?_ | refine J (Gs Z Z Z) ?_ | refine J (GY Z Z Z) ?_ | refine J (Gu Try.underlying3 Z Z Z) ?_ | refine J (Gw Try.underlying3 Z Z Z) ?_ | refine J (st_neqN Try.underlying3 Z Z) ?_ | refine J (Gr Try.underlying3 Z Z) ?_ | refine J (st_neqMz Try.underlying3 Z Z) ?_ | refine J (Gv Try.underlying3 Z Z Z) ?_ | refine J (st_neqFN Try.underlying3 Z Z) ?_
 refine AG ⟨rfl,?_⟩;refine B9 9 Z Z (J (Fo Z Z Z Z) (AG ⟨rfl,?_⟩));refine B9 10 Z Z (AC Z Z (Ds 26 rfl (by simp) (AG ⟨rfl,?_⟩)));refine Dk ?_
 first | refine AE [0,26] [] Z Z (fun _=>Aw Z Z Z (Ac Z Z)) ?_ | refine AH [0,26] Z Z (fun _=>Aw Z Z Z (Ac Z Z)) ?_
 refine CA [27,26] [40] [(28,_)] Z Z (fun _=>ge_run Z Z Z (F5 (len_c h hw) rfl [40] ⟨rfl,trivial⟩ Z Z Z Z Z Z Z Z Z)) (.inr ⟨28,_,rfl,rfl,rfl,rfl,rfl⟩) Z Z Z Z Z ?_
 first | refine AE [3,26] [] Z Z (fun _=>Aw Z Z Z (A4 rfl Ag Z Z Z)) ?_ | refine AH [3,26] Z Z (fun _=>Aw Z Z Z (A4 rfl Ag Z Z Z)) ?_ | refine AE [3,26] [] Z Z (fun _=>Aw Z Z Z (A6 rfl Ag Z Z Z)) ?_ | refine AH [3,26] Z Z (fun _=>Aw Z Z Z (A6 rfl Ag Z Z Z)) ?_ | refine AE [3,26] [] Z Z (fun _=>Aw Z Z Z (A7 rfl Ag Z Z Z)) ?_ | refine AH [3,26] Z Z (fun _=>Aw Z Z Z (A7 rfl Ag Z Z Z)) ?_ | refine AE [3,26] [] Z Z (fun _=>Aw Z Z Z (A5 rfl Ag Z Z Z)) ?_ | refine AH [3,26] Z Z (fun _=>Aw Z Z Z (A5 rfl Ag Z Z Z)) ?_ | refine AE [3,26] [] Z Z (fun _=>Aw Z Z Z (A3 rfl Ag Z Z Z)) ?_ | refine AH [3,26] Z Z (fun _=>Aw Z Z Z (A3 rfl Ag Z Z Z)) ?_
 first | refine AE [29,26] [20] Z Z (fun _=>Aw Z Z Z (AY Z Z AT rfl)) ?_ | refine AE [29,26] [20] Z Z (fun _=>Aw Z Z Z (AW Z Z Z AT rfl)) ?_ | refine AE [29,26] [20] Z Z (fun _=>Aw Z Z Z (AX Z Z (rfl) rfl AT rfl)) ?_
 first | refine AE [30,26] [] Z Z (fun _=>Aw Z Z Z (CJ rfl (List.length_map ..) Try.underlying32 rfl)) ?_ | refine AH [30,26] Z Z (fun _=>Aw Z Z Z (CJ rfl (List.length_map ..) Try.underlying32 rfl)) ?_
 refine Dl 15 Z Z Z (B9 16 Z Z (A1 Z Z Z ?_))
 first | refine J (Gt Z Z Z) ?_ | refine J (Gs Z Z Z) ?_ | refine J (GY Z Z Z) ?_ | refine J (Gu Try.underlying3 Z Z Z) ?_ | refine J (Gw Try.underlying3 Z Z Z) ?_ | refine J (st_neqN Try.underlying3 Z Z) ?_ | refine J (Gr Try.underlying3 Z Z) ?_ | refine J (st_neqMz Try.underlying3 Z Z) ?_ | refine J (Gv Try.underlying3 Z Z Z) ?_ | refine J (st_neqFN Try.underlying3 Z Z) ?_
 refine AG ⟨rfl,?_⟩;refine B9 17 Z Z (J (Fo Z Z Z Z) (AG ⟨rfl,?_⟩));refine Em ?_;refine D0 rfl (by simp) (Ak (AF (AF (AI (AD Z Z (AG (Bc (F4 (α:=Nat) (fun k=>⟨94,[(5,(.d (DF G))),(6,(.d (DF G))),(8,(.d (natD k)))],[(40,[.multi M])]⟩) (fun k=>k≤G.length) (fun k=>G.length - k) (0) (Nat.zero_le _) (BK hF [40] Z Z ⟨rfl,rfl,rfl,trivial⟩) ?_))))))));rintro k hk;refine AF (AF (AI (AC Z Z (AC Z Z (J (CJ rfl (List.length_map ..) Try.underlying47 rfl) ?_)))))
 first | refine J (Es Z Z Z) ?_ | refine J (Ex Z Z Z) ?_
 refine AG ?_
 first | refine BC rfl (fun h37=>?_) (fun h37=>?_) | refine Az rfl (fun h37=>?_) (fun h37=>?_)
 ·refine Ak (AF (Bc (AF (AF ?_))));have hkl:k<G.length:=Hl h37;obtain ⟨hm1,hm2⟩:=hg2 _ (List.getElem_mem hkl);refine FH [[],[],[0,1],[0,1,2],[0,1,2,3],[],[],[5,6],[5,6,7],[5,6,7,8],[0,1,2,3,4,5,6,7,8,9],[0,1,2,3,4,5,6,7,8,9,10],[0,1,2,3,4,5,6,7,8,9,10,11],[0,1,2,3,4,5,6,7,8,9,10,11,12],[0,1,2,3,4,5,6,7,8,9,10,11,12],[0,1,2,3,4,5,6,7,8,9,10,11,12,13,14],[0,1,2,3,4,5,6,7,8,9,10,11,12,13,14,15],[0,1,2,3,4,5,6,7,8,9,10,11,12,13,14,15,16],[0,1,2,3,4,5,6,7,8,9,10,11,12,13,14,15,16,17],[0,1,2,3,4,5,6,7,8,9,10,11,12],[0,1,2,3,4,5,6,7,8,9,10,11,12],[0,1,2,3,4,5,6,7,8,9,10,11,12,19,20],[0,1,2,3,4,5,6,7,8,9,10,11,12,19,20,21],[0,1,2,3,4,5,6,7,8,9,10,11,12,19,20,21,22],[0,1,2,3,4,5,6,7,8,9,10,11,12,19,20,21,22,23],[0,1,2,3,4,5,6,7,8,9,10,11,12,13,14,15,16,17,18,19,20,21,22,23,24],[0,1,2,3,4,5,6,7,8,9,10,11,12,13,14,15,16,17,18,19,20,21,22,23,24,25]] mixed rfl (Dk ?_)
  first | refine AE [5] [] Z Z (fun _=>AB (Ac Z Z)) ?_ | refine AH [5] Z Z (fun _=>AB (Ac Z Z)) ?_
  first | refine AE [8] [] Z Z (fun _=>AB (Ac Z Z)) ?_ | refine AH [8] Z Z (fun _=>AB (Ac Z Z)) ?_
  first | refine AE [40,41] [] Z Z (fun _=>AB (BN (k) Z Z (rfl) (Cs hkl) Try.underlying47 rfl DN rfl)) ?_ | refine AH [40,41] Z Z (fun _=>AB (BN (k) Z Z (rfl) (Cs hkl) Try.underlying47 rfl DN rfl)) ?_ | refine AE [40,41] [] Z Z (fun _=>AB (BO (k) Z Z (rfl) (Cs hkl) rfl Try.underlying47 DN rfl)) ?_ | refine AH [40,41] Z Z (fun _=>AB (BO (k) Z Z (rfl) (Cs hkl) rfl Try.underlying47 DN rfl)) ?_
  first | refine AE [42] [] Z Z (fun _=>AB (A4 rfl K0 Z Z Z)) ?_ | refine AH [42] Z Z (fun _=>AB (A4 rfl K0 Z Z Z)) ?_ | refine AE [42] [] Z Z (fun _=>AB (A6 rfl K0 Z Z Z)) ?_ | refine AH [42] Z Z (fun _=>AB (A6 rfl K0 Z Z Z)) ?_ | refine AE [42] [] Z Z (fun _=>AB (A7 rfl K0 Z Z Z)) ?_ | refine AH [42] Z Z (fun _=>AB (A7 rfl K0 Z Z Z)) ?_ | refine AE [42] [] Z Z (fun _=>AB (A5 rfl K0 Z Z Z)) ?_ | refine AH [42] Z Z (fun _=>AB (A5 rfl K0 Z Z Z)) ?_ | refine AE [42] [] Z Z (fun _=>AB (A3 rfl K0 Z Z Z)) ?_ | refine AH [42] Z Z (fun _=>AB (A3 rfl K0 Z Z Z)) ?_
  first | refine AE [43] [] Z Z (fun _=>AB (AY Z Z AT rfl)) ?_ | refine AH [43] Z Z (fun _=>AB (AY Z Z AT rfl)) ?_ | refine AE [43] [] Z Z (fun _=>AB (AW Z Z Z AT rfl)) ?_ | refine AH [43] Z Z (fun _=>AB (AW Z Z Z AT rfl)) ?_ | refine AE [43] [] Z Z (fun _=>AB (AX Z Z (rfl) rfl AT rfl)) ?_ | refine AH [43] Z Z (fun _=>AB (AX Z Z (rfl) rfl AT rfl)) ?_
  first | refine AE [6] [] Z Z (fun _=>AB (Ac Z Z)) ?_ | refine AH [6] Z Z (fun _=>AB (Ac Z Z)) ?_
  first | refine AE [8] [] Z Z (fun _=>AB (Ac Z Z)) ?_ | refine AH [8] Z Z (fun _=>AB (Ac Z Z)) ?_
  first | refine AE [45,46] [] Z Z (fun _=>AB (BN (k) Z Z (rfl) (Cs hkl) Try.underlying73 rfl HD rfl)) ?_ | refine AH [45,46] Z Z (fun _=>AB (BN (k) Z Z (rfl) (Cs hkl) Try.underlying73 rfl HD rfl)) ?_ | refine AE [45,46] [] Z Z (fun _=>AB (BO (k) Z Z (rfl) (Cs hkl) rfl Try.underlying73 HD rfl)) ?_ | refine AH [45,46] Z Z (fun _=>AB (BO (k) Z Z (rfl) (Cs hkl) rfl Try.underlying73 HD rfl)) ?_
  first | refine AE [47] [] Z Z (fun _=>AB (A4 rfl Du Z Z Z)) ?_ | refine AH [47] Z Z (fun _=>AB (A4 rfl Du Z Z Z)) ?_ | refine AE [47] [] Z Z (fun _=>AB (A6 rfl Du Z Z Z)) ?_ | refine AH [47] Z Z (fun _=>AB (A6 rfl Du Z Z Z)) ?_ | refine AE [47] [] Z Z (fun _=>AB (A7 rfl Du Z Z Z)) ?_ | refine AH [47] Z Z (fun _=>AB (A7 rfl Du Z Z Z)) ?_ | refine AE [47] [] Z Z (fun _=>AB (A5 rfl Du Z Z Z)) ?_ | refine AH [47] Z Z (fun _=>AB (A5 rfl Du Z Z Z)) ?_ | refine AE [47] [] Z Z (fun _=>AB (A3 rfl Du Z Z Z)) ?_ | refine AH [47] Z Z (fun _=>AB (A3 rfl Du Z Z Z)) ?_
  first | refine AE [48] [] Z Z (fun _=>AB (AY Z Z AT rfl)) ?_ | refine AH [48] Z Z (fun _=>AB (AY Z Z AT rfl)) ?_ | refine AE [48] [] Z Z (fun _=>AB (AW Z Z Z AT rfl)) ?_ | refine AH [48] Z Z (fun _=>AB (AW Z Z Z AT rfl)) ?_ | refine AE [48] [] Z Z (fun _=>AB (AX Z Z (rfl) rfl AT rfl)) ?_ | refine AH [48] Z Z (fun _=>AB (AX Z Z (rfl) rfl AT rfl)) ?_
  refine Dl 10 Z Z Z (B9 11 Z Z (J (DZ (IF G[k].m G[k].m hm1) Z Z) (AG ⟨rfl,?_⟩)));refine B9 12 Z Z ?_
  first | refine J (EZ Z Z) ?_ | refine J (EY Z Z) ?_
  refine AG ⟨rfl,?_⟩;refine B9 13 Z Z (AC Z Z (Ds 52 rfl (by simp) (AG ⟨rfl,?_⟩)));refine Dk ?_
  first | refine AE [5,52] [] Z Z (fun _=>Aw Z Z Z (Ac Z Z)) ?_ | refine AH [5,52] Z Z (fun _=>Aw Z Z Z (Ac Z Z)) ?_
  first | refine AE [8,52] [] Z Z (fun _=>Aw Z Z Z (Ac Z Z)) ?_ | refine AH [8,52] Z Z (fun _=>Aw Z Z Z (Ac Z Z)) ?_
  first | refine AE [53,54,52] [] Z Z (fun _=>Aw Z Z Z (BN (k) Z Z (rfl) (Cs hkl) Try.underlying47 rfl DN rfl)) ?_ | refine AH [53,54,52] Z Z (fun _=>Aw Z Z Z (BN (k) Z Z (rfl) (Cs hkl) Try.underlying47 rfl DN rfl)) ?_ | refine AE [53,54,52] [] Z Z (fun _=>Aw Z Z Z (BO (k) Z Z (rfl) (Cs hkl) rfl Try.underlying47 DN rfl)) ?_ | refine AH [53,54,52] Z Z (fun _=>Aw Z Z Z (BO (k) Z Z (rfl) (Cs hkl) rfl Try.underlying47 DN rfl)) ?_
  first | refine AE [55,52] [] Z Z (fun _=>Aw Z Z Z (A4 rfl Cb Z Z Z)) ?_ | refine AH [55,52] Z Z (fun _=>Aw Z Z Z (A4 rfl Cb Z Z Z)) ?_ | refine AE [55,52] [] Z Z (fun _=>Aw Z Z Z (A6 rfl Cb Z Z Z)) ?_ | refine AH [55,52] Z Z (fun _=>Aw Z Z Z (A6 rfl Cb Z Z Z)) ?_ | refine AE [55,52] [] Z Z (fun _=>Aw Z Z Z (A7 rfl Cb Z Z Z)) ?_ | refine AH [55,52] Z Z (fun _=>Aw Z Z Z (A7 rfl Cb Z Z Z)) ?_ | refine AE [55,52] [] Z Z (fun _=>Aw Z Z Z (A5 rfl Cb Z Z Z)) ?_ | refine AH [55,52] Z Z (fun _=>Aw Z Z Z (A5 rfl Cb Z Z Z)) ?_ | refine AE [55,52] [] Z Z (fun _=>Aw Z Z Z (A3 rfl Cb Z Z Z)) ?_ | refine AH [55,52] Z Z (fun _=>Aw Z Z Z (A3 rfl Cb Z Z Z)) ?_
  first | refine AE [56,52] [] Z Z (fun _=>Aw Z Z Z (AY Z Z Ab rfl)) ?_ | refine AH [56,52] Z Z (fun _=>Aw Z Z Z (AY Z Z Ab rfl)) ?_ | refine AE [56,52] [] Z Z (fun _=>Aw Z Z Z (AW Z Z Z Ab rfl)) ?_ | refine AH [56,52] Z Z (fun _=>Aw Z Z Z (AW Z Z Z Ab rfl)) ?_ | refine AE [56,52] [] Z Z (fun _=>Aw Z Z Z (AX Z Z (rfl) rfl Ab rfl)) ?_ | refine AH [56,52] Z Z (fun _=>Aw Z Z Z (AX Z Z (rfl) rfl Ab rfl)) ?_
  first | refine AE [57,52] [] Z Z (fun _=>Aw Z Z Z (CJ rfl (List.length_map ..) Try.underlying49 rfl)) ?_ | refine AH [57,52] Z Z (fun _=>Aw Z Z Z (CJ rfl (List.length_map ..) Try.underlying49 rfl)) ?_
  first | refine AE [6,52] [] Z Z (fun _=>Aw Z Z Z (Ac Z Z)) ?_ | refine AH [6,52] Z Z (fun _=>Aw Z Z Z (Ac Z Z)) ?_
  first | refine AE [8,52] [] Z Z (fun _=>Aw Z Z Z (Ac Z Z)) ?_ | refine AH [8,52] Z Z (fun _=>Aw Z Z Z (Ac Z Z)) ?_
  first | refine AE [59,60,52] [] Z Z (fun _=>Aw Z Z Z (BN (k) Z Z (rfl) (Cs hkl) Try.underlying73 rfl HD rfl)) ?_ | refine AH [59,60,52] Z Z (fun _=>Aw Z Z Z (BN (k) Z Z (rfl) (Cs hkl) Try.underlying73 rfl HD rfl)) ?_ | refine AE [59,60,52] [] Z Z (fun _=>Aw Z Z Z (BO (k) Z Z (rfl) (Cs hkl) rfl Try.underlying73 HD rfl)) ?_ | refine AH [59,60,52] Z Z (fun _=>Aw Z Z Z (BO (k) Z Z (rfl) (Cs hkl) rfl Try.underlying73 HD rfl)) ?_
  first | refine AE [61,52] [] Z Z (fun _=>Aw Z Z Z (A4 rfl GX Z Z Z)) ?_ | refine AH [61,52] Z Z (fun _=>Aw Z Z Z (A4 rfl GX Z Z Z)) ?_ | refine AE [61,52] [] Z Z (fun _=>Aw Z Z Z (A6 rfl GX Z Z Z)) ?_ | refine AH [61,52] Z Z (fun _=>Aw Z Z Z (A6 rfl GX Z Z Z)) ?_ | refine AE [61,52] [] Z Z (fun _=>Aw Z Z Z (A7 rfl GX Z Z Z)) ?_ | refine AH [61,52] Z Z (fun _=>Aw Z Z Z (A7 rfl GX Z Z Z)) ?_ | refine AE [61,52] [] Z Z (fun _=>Aw Z Z Z (A5 rfl GX Z Z Z)) ?_ | refine AH [61,52] Z Z (fun _=>Aw Z Z Z (A5 rfl GX Z Z Z)) ?_ | refine AE [61,52] [] Z Z (fun _=>Aw Z Z Z (A3 rfl GX Z Z Z)) ?_ | refine AH [61,52] Z Z (fun _=>Aw Z Z Z (A3 rfl GX Z Z Z)) ?_
  first | refine AE [62,52] [] Z Z (fun _=>Aw Z Z Z (AY Z Z Ab rfl)) ?_ | refine AH [62,52] Z Z (fun _=>Aw Z Z Z (AY Z Z Ab rfl)) ?_ | refine AE [62,52] [] Z Z (fun _=>Aw Z Z Z (AW Z Z Z Ab rfl)) ?_ | refine AH [62,52] Z Z (fun _=>Aw Z Z Z (AW Z Z Z Ab rfl)) ?_ | refine AE [62,52] [] Z Z (fun _=>Aw Z Z Z (AX Z Z (rfl) rfl Ab rfl)) ?_ | refine AH [62,52] Z Z (fun _=>Aw Z Z Z (AX Z Z (rfl) rfl Ab rfl)) ?_
  first | refine AE [63,52] [] Z Z (fun _=>Aw Z Z Z (CJ rfl (List.length_map ..) Try.underlying49 rfl)) ?_ | refine AH [63,52] Z Z (fun _=>Aw Z Z Z (CJ rfl (List.length_map ..) Try.underlying49 rfl)) ?_
  refine Dl 25 Z Z Z (B9 26 Z Z (A1 Z Z Z ?_))
  first | refine J (Gt Z Z Z) ?_ | refine J (Gs Z Z Z) ?_ | refine J (GY Z Z Z) ?_ | refine J (Gu Try.underlying3 Z Z Z) ?_ | refine J (Gw Try.underlying3 Z Z Z) ?_ | refine J (st_neqN Try.underlying3 Z Z) ?_ | refine J (Gr Try.underlying3 Z Z) ?_ | refine J (st_neqMz Try.underlying3 Z Z) ?_ | refine J (Gv Try.underlying3 Z Z Z) ?_ | refine J (st_neqFN Try.underlying3 Z Z) ?_
  refine AG ⟨rfl,?_⟩;refine B9 27 Z Z (J (Fo Z Z Z Z) (AG ⟨rfl,?_⟩));refine Em (D0 rfl (by simp) (Ak (AF (AI (AD Z Z (AG (Bc (F4 (α:=Nat) (fun j=>⟨94,[(5,(.d (DF G))),(6,(.d (DF G))),(8,(.d (natD k))),(9,(.d (natD j)))],[(40,[.multi M])]⟩) (fun j=>j≤G[k].a.length) (fun j=>G[k].a.length - j) (0) (Nat.zero_le _) (BK hF [40] Z Z ⟨rfl,rfl,rfl,rfl,trivial⟩) ?_))))))));rintro j hj;refine AF (AF (AI (AC Z Z (AC Z Z (AC Z Z ?_)))))
  first | refine J (BN (k) Z Z (rfl) (Cs hkl) Try.underlying47 rfl DN rfl) ?_ | refine J (BO (k) Z Z (rfl) (Cs hkl) rfl Try.underlying47 DN rfl) ?_
  first | refine J (A4 rfl Cb Z Z Z) ?_ | refine J (A6 rfl Cb Z Z Z) ?_ | refine J (A7 rfl Cb Z Z Z) ?_ | refine J (A5 rfl Cb Z Z Z) ?_ | refine J (A3 rfl Cb Z Z Z) ?_
  first | refine J (AY Z Z Ab rfl) ?_ | refine J (AW Z Z Z Ab rfl) ?_ | refine J (AX Z Z (rfl) rfl Ab rfl) ?_
  refine J (CJ rfl (List.length_map ..) Try.underlying49 rfl) ?_
  first | refine J (Es Z Z Z) ?_ | refine J (Ex Z Z Z) ?_
  refine AG ?_
  first | refine BC rfl (fun h74=>?_) (fun h74=>?_) | refine Az rfl (fun h74=>?_) (fun h74=>?_)
  ·refine Ak (AF (Bc (AF ?_)));have hjl:j<G[k].a.length:=Hl h74;refine FH [[],[],[0,1],[0,1,2],[0,1,2,3],[],[0,1,2,3,4,5],[0,1,2,3,4,5,6],[],[],[8,9],[8,9,10],[8,9,10,11],[],[8,9,10,11,12,13],[8,9,10,11,12,13,14],[0,1,2,3,4,5,6,7,8,9,10,11,12,13,14,15]] mixed rfl (Dk ?_)
   first | refine AE [5] [] Z Z (fun _=>AB (Ac Z Z)) ?_ | refine AH [5] Z Z (fun _=>AB (Ac Z Z)) ?_
   first | refine AE [8] [] Z Z (fun _=>AB (Ac Z Z)) ?_ | refine AH [8] Z Z (fun _=>AB (Ac Z Z)) ?_
   first | refine AE [77,78] [] Z Z (fun _=>AB (BN (k) Z Z (rfl) (Cs hkl) Try.underlying47 rfl DN rfl)) ?_ | refine AH [77,78] Z Z (fun _=>AB (BN (k) Z Z (rfl) (Cs hkl) Try.underlying47 rfl DN rfl)) ?_ | refine AE [77,78] [] Z Z (fun _=>AB (BO (k) Z Z (rfl) (Cs hkl) rfl Try.underlying47 DN rfl)) ?_ | refine AH [77,78] Z Z (fun _=>AB (BO (k) Z Z (rfl) (Cs hkl) rfl Try.underlying47 DN rfl)) ?_
   first | refine AE [79] [] Z Z (fun _=>AB (A4 rfl Cb Z Z Z)) ?_ | refine AH [79] Z Z (fun _=>AB (A4 rfl Cb Z Z Z)) ?_ | refine AE [79] [] Z Z (fun _=>AB (A6 rfl Cb Z Z Z)) ?_ | refine AH [79] Z Z (fun _=>AB (A6 rfl Cb Z Z Z)) ?_ | refine AE [79] [] Z Z (fun _=>AB (A7 rfl Cb Z Z Z)) ?_ | refine AH [79] Z Z (fun _=>AB (A7 rfl Cb Z Z Z)) ?_ | refine AE [79] [] Z Z (fun _=>AB (A5 rfl Cb Z Z Z)) ?_ | refine AH [79] Z Z (fun _=>AB (A5 rfl Cb Z Z Z)) ?_ | refine AE [79] [] Z Z (fun _=>AB (A3 rfl Cb Z Z Z)) ?_ | refine AH [79] Z Z (fun _=>AB (A3 rfl Cb Z Z Z)) ?_
   first | refine AE [80] [] Z Z (fun _=>AB (AY Z Z Ab rfl)) ?_ | refine AH [80] Z Z (fun _=>AB (AY Z Z Ab rfl)) ?_ | refine AE [80] [] Z Z (fun _=>AB (AW Z Z Z Ab rfl)) ?_ | refine AH [80] Z Z (fun _=>AB (AW Z Z Z Ab rfl)) ?_ | refine AE [80] [] Z Z (fun _=>AB (AX Z Z (rfl) rfl Ab rfl)) ?_ | refine AH [80] Z Z (fun _=>AB (AX Z Z (rfl) rfl Ab rfl)) ?_
   first | refine AE [9] [] Z Z (fun _=>AB (Ac Z Z)) ?_ | refine AH [9] Z Z (fun _=>AB (Ac Z Z)) ?_
   first | refine AE [81,82] [] Z Z (fun _=>AB (BN (j) Z Z (rfl) (DU hjl) Try.underlying49 rfl D1 rfl)) ?_ | refine AH [81,82] Z Z (fun _=>AB (BN (j) Z Z (rfl) (DU hjl) Try.underlying49 rfl D1 rfl)) ?_ | refine AE [81,82] [] Z Z (fun _=>AB (BO (j) Z Z (rfl) (DU hjl) rfl Try.underlying49 D1 rfl)) ?_ | refine AH [81,82] Z Z (fun _=>AB (BO (j) Z Z (rfl) (DU hjl) rfl Try.underlying49 D1 rfl)) ?_
   first | refine AE [83] [] Z Z (fun _=>AB (AY Z Z Be rfl)) ?_ | refine AH [83] Z Z (fun _=>AB (AY Z Z Be rfl)) ?_ | refine AE [83] [] Z Z (fun _=>AB (AW Z Z Z Be rfl)) ?_ | refine AH [83] Z Z (fun _=>AB (AW Z Z Z Be rfl)) ?_ | refine AE [83] [] Z Z (fun _=>AB (AX Z Z (rfl) rfl Be rfl)) ?_ | refine AH [83] Z Z (fun _=>AB (AX Z Z (rfl) rfl Be rfl)) ?_
   first | refine AE [6] [] Z Z (fun _=>AB (Ac Z Z)) ?_ | refine AH [6] Z Z (fun _=>AB (Ac Z Z)) ?_
   first | refine AE [8] [] Z Z (fun _=>AB (Ac Z Z)) ?_ | refine AH [8] Z Z (fun _=>AB (Ac Z Z)) ?_
   first | refine AE [85,86] [] Z Z (fun _=>AB (BN (k) Z Z (rfl) (Cs hkl) Try.underlying73 rfl HD rfl)) ?_ | refine AH [85,86] Z Z (fun _=>AB (BN (k) Z Z (rfl) (Cs hkl) Try.underlying73 rfl HD rfl)) ?_ | refine AE [85,86] [] Z Z (fun _=>AB (BO (k) Z Z (rfl) (Cs hkl) rfl Try.underlying73 HD rfl)) ?_ | refine AH [85,86] Z Z (fun _=>AB (BO (k) Z Z (rfl) (Cs hkl) rfl Try.underlying73 HD rfl)) ?_
   first | refine AE [87] [] Z Z (fun _=>AB (A4 rfl GX Z Z Z)) ?_ | refine AH [87] Z Z (fun _=>AB (A4 rfl GX Z Z Z)) ?_ | refine AE [87] [] Z Z (fun _=>AB (A6 rfl GX Z Z Z)) ?_ | refine AH [87] Z Z (fun _=>AB (A6 rfl GX Z Z Z)) ?_ | refine AE [87] [] Z Z (fun _=>AB (A7 rfl GX Z Z Z)) ?_ | refine AH [87] Z Z (fun _=>AB (A7 rfl GX Z Z Z)) ?_ | refine AE [87] [] Z Z (fun _=>AB (A5 rfl GX Z Z Z)) ?_ | refine AH [87] Z Z (fun _=>AB (A5 rfl GX Z Z Z)) ?_ | refine AE [87] [] Z Z (fun _=>AB (A3 rfl GX Z Z Z)) ?_ | refine AH [87] Z Z (fun _=>AB (A3 rfl GX Z Z Z)) ?_
   first | refine AE [88] [] Z Z (fun _=>AB (AY Z Z Ab rfl)) ?_ | refine AH [88] Z Z (fun _=>AB (AY Z Z Ab rfl)) ?_ | refine AE [88] [] Z Z (fun _=>AB (AW Z Z Z Ab rfl)) ?_ | refine AH [88] Z Z (fun _=>AB (AW Z Z Z Ab rfl)) ?_ | refine AE [88] [] Z Z (fun _=>AB (AX Z Z (rfl) rfl Ab rfl)) ?_ | refine AH [88] Z Z (fun _=>AB (AX Z Z (rfl) rfl Ab rfl)) ?_
   first | refine AE [9] [] Z Z (fun _=>AB (Ac Z Z)) ?_ | refine AH [9] Z Z (fun _=>AB (Ac Z Z)) ?_
   first | refine AE [89,90] [] Z Z (fun _=>AB (BN (j) Z Z (rfl) (DU hjl) Try.underlying49 rfl D1 rfl)) ?_ | refine AH [89,90] Z Z (fun _=>AB (BN (j) Z Z (rfl) (DU hjl) Try.underlying49 rfl D1 rfl)) ?_ | refine AE [89,90] [] Z Z (fun _=>AB (BO (j) Z Z (rfl) (DU hjl) rfl Try.underlying49 D1 rfl)) ?_ | refine AH [89,90] Z Z (fun _=>AB (BO (j) Z Z (rfl) (DU hjl) rfl Try.underlying49 D1 rfl)) ?_
   first | refine AE [91] [] Z Z (fun _=>AB (AY Z Z Be rfl)) ?_ | refine AH [91] Z Z (fun _=>AB (AY Z Z Be rfl)) ?_ | refine AE [91] [] Z Z (fun _=>AB (AW Z Z Z Be rfl)) ?_ | refine AH [91] Z Z (fun _=>AB (AW Z Z Z Be rfl)) ?_ | refine AE [91] [] Z Z (fun _=>AB (AX Z Z (rfl) rfl Be rfl)) ?_ | refine AH [91] Z Z (fun _=>AB (AX Z Z (rfl) rfl Be rfl)) ?_
   refine Dl 16 Z Z Z (B9 17 Z Z ?_)
   first | refine J (Gt Z Z Z) ?_ | refine J (Gs Z Z Z) ?_ | refine J (GY Z Z Z) ?_ | refine J (Gu Try.underlying3 Z Z Z) ?_ | refine J (Gw Try.underlying3 Z Z Z) ?_ | refine J (st_neqN Try.underlying3 Z Z) ?_ | refine J (Gr Try.underlying3 Z Z) ?_ | refine J (st_neqMz Try.underlying3 Z Z) ?_ | refine J (Gv Try.underlying3 Z Z Z) ?_ | refine J (st_neqFN Try.underlying3 Z Z) ?_
   refine AG ⟨rfl,?_⟩;refine Em (D0 rfl (by simp) (Ak (AI (AC Z Z (J (Cz Z Z (IntWalk.i64_in _ (by omega)) rfl) (AD Z Z (AG ?_)))))));exact ⟨j+1,hjl,by omega,BK hF [40] rfl (rfl) ⟨rfl,rfl,rfl,rfl,trivial⟩⟩
  ·refine ET (AI (AC Z Z (J (Cz Z Z (IntWalk.i64_in _ (by omega)) rfl) (AD Z Z (AG ?_)))));exact ⟨k+1,hkl,by omega,BK hF [40] rfl (rfl) ⟨rfl,rfl,rfl,trivial⟩⟩
 ·refine ET (AF (AI (AD Z Z (AG (At ?_)))));exact ⟨_,[40],_,Ar rfl,rfl,rfl,rfl,rfl⟩
end Go.Proofs.Ytlmedakidpaeeaa
