/- Layer 27: the reference's Add, AddLink, Unlink, Remove, Same. -/
import Derived.Test.YtlmedakidpaeeaaMg21
namespace Go.Proofs.Ytlmedakidpaeeaa
open Go.RowKit
set_option maxRecDepth 100000
theorem P0 (w:Ws) (hw:Ba w) (x:St):B4 Try.prog 34 [.d (LH w),.d (AU x)] (.tup [LH (addW w x).1,Bt (addW w x).2]):=by
 have hfew:=hw.few;refine DY Try.func34 Z Z Try.ntmps34 Z Z Z fun F hF=>(AG ?_);refine AI (U (Iz 20 Z Z Z Z Z Z Z) (U (IF 21 ES Z Z Z Z) (AD Z Z (AF (AG (AG (AI (AC Z Z ?_))))))))
 first | refine J (JL rfl Try.underlying9 rfl) ?_ | refine J (CG Z Z Try.underlying9 rfl) ?_ | refine J (JG rfl Try.underlying9 rfl) ?_ | refine J (JJ rfl Try.underlying9 rfl) ?_ | refine J (JF rfl Try.underlying9 rfl) ?_ | refine J (Ix rfl Try.underlying9 rfl) ?_
 first | refine J (Eo Z Z Z) ?_ | refine J (Ep Z Z Z) ?_
 refine AC Z Z ?_
 first | refine KL 9 rfl (fun h9=>?_) (fun h9=>?_) | refine JH 9 rfl (fun h9=>?_) (fun h9=>?_)
 ·refine BH Z Z Z Z (BH Z Z Z Z (BH Z Z Z Z (J (H8 Z Z Z Z) (AF (Kx Z Z (AG (AI ?_)))))))
  first | refine J (BW Z Z AP rfl) ?_ | refine J (BX Z Z AP Z Z Z) ?_ | refine J (BY Z Z (rfl) rfl AP rfl) ?_
  refine U (Bu Z Z Z Z Z Z Z Bh) (AD Z Z (AF (Ay ?_)));exact ⟨_,[],[],Av rfl,rfl,rfl,by rw [HL (by omega)],rfl⟩
 ·refine Ab Z Z Z (AC Z Z (Ab Z Z Z ?_))
  first | refine J (JL rfl Try.underlying9 rfl) ?_ | refine J (CG Z Z Try.underlying9 rfl) ?_ | refine J (JG rfl Try.underlying9 rfl) ?_ | refine J (JJ rfl Try.underlying9 rfl) ?_ | refine J (JF rfl Try.underlying9 rfl) ?_ | refine J (Ix rfl Try.underlying9 rfl) ?_
  refine Ab Z Z Z ?_
  first | refine J (Mj Z Z Z) ?_ | refine J (KW Z Z Z) ?_
  refine J (GR Z Z Z Z) (AF ?_)
  first | refine BG rfl (fun h13=>?_) (fun h13=>?_) | refine BB rfl (fun h13=>?_) (fun h13=>?_)
  ·refine AG (AI ?_)
   first | refine J (BW Z Z AP rfl) ?_ | refine J (BX Z Z AP Z Z Z) ?_ | refine J (BY Z Z (rfl) rfl AP rfl) ?_
   refine U (Bu Z Z Z Z Z Z Z Bh) (AD Z Z (AF (Ay ?_)));exact ⟨_,[],[],Av rfl,rfl,rfl,by rw [HL (by omega)],rfl⟩
  ·refine An (AG (AG (AI ?_)))
   first | refine J (A2 rfl Ag Z Z Z) ?_ | refine J (A4 rfl Ag Z Z Z) ?_ | refine J (A5 rfl Ag Z Z Z) ?_ | refine J (A3 rfl Ag Z Z Z) ?_ | refine J (A1 rfl Ag Z Z Z) ?_
   first | refine J (AY Z Z AR rfl) ?_ | refine J (AW Z Z Z AR rfl) ?_ | refine J (AX Z Z (rfl) rfl AR rfl) ?_
   refine AC Z Z (J (DW (Bj w.R x (by omega)) Z Z) (AF ?_))
   first | refine BG rfl (fun h18=>?_) (fun h18=>?_) | refine BB rfl (fun h18=>?_) (fun h18=>?_)
   ·refine AG (AI ?_)
    first | refine J (BW Z Z AP rfl) ?_ | refine J (BX Z Z AP Z Z Z) ?_ | refine J (BY Z Z (rfl) rfl AP rfl) ?_
    refine U (Bu Z Z Z Z Z Z Z Bh) (AD Z Z (AF (Ay ?_)));exact ⟨_,[],[],Av rfl,rfl,rfl,by rw [NT (by omega) h18],rfl⟩
   ·refine An (AG (AG (AI ?_)))
    first | refine J (A2 rfl Ag Z Z Z) ?_ | refine J (A4 rfl Ag Z Z Z) ?_ | refine J (A5 rfl Ag Z Z Z) ?_ | refine J (A3 rfl Ag Z Z Z) ?_ | refine J (A1 rfl Ag Z Z Z) ?_
    first | refine J (AY Z Z AR rfl) ?_ | refine J (AW Z Z Z AR rfl) ?_ | refine J (AX Z Z (rfl) rfl AR rfl) ?_
    refine J (CG rfl (List.length_map ..) Try.underlying32 rfl) (J (KX Z Z Z) (AF ?_))
    first | refine BG rfl (fun h23=>?_) (fun h23=>?_) | refine BB rfl (fun h23=>?_) (fun h23=>?_)
    ·refine AG (AI ?_)
     first | refine J (BW Z Z AP rfl) ?_ | refine J (BX Z Z AP Z Z Z) ?_ | refine J (BY Z Z (rfl) rfl AP rfl) ?_
     refine U (Bu Z Z Z Z Z Z Z Bh) (AD Z Z (AF (Ay ?_)));exact ⟨_,[],[],Av rfl,rfl,rfl,by rw [NS (by omega) h18 (by omega)],rfl⟩
    ·refine An (AG (Fh [[],[0],[],[0,1,2],[],[4],[0,1,2,3,4,5],[0,1,2,3,4,5,6],[0,1,2,3,4,5,6,7]] mixed rfl (EK ?_)))
     first | refine AE [2] [] Z Z (fun _=>AB (A2 rfl Ag Z Z Z)) ?_ | refine AH [2] Z Z (fun _=>AB (A2 rfl Ag Z Z Z)) ?_ | refine AE [2] [] Z Z (fun _=>AB (A4 rfl Ag Z Z Z)) ?_ | refine AH [2] Z Z (fun _=>AB (A4 rfl Ag Z Z Z)) ?_ | refine AE [2] [] Z Z (fun _=>AB (A5 rfl Ag Z Z Z)) ?_ | refine AH [2] Z Z (fun _=>AB (A5 rfl Ag Z Z Z)) ?_ | refine AE [2] [] Z Z (fun _=>AB (A3 rfl Ag Z Z Z)) ?_ | refine AH [2] Z Z (fun _=>AB (A3 rfl Ag Z Z Z)) ?_ | refine AE [2] [] Z Z (fun _=>AB (A1 rfl Ag Z Z Z)) ?_ | refine AH [2] Z Z (fun _=>AB (A1 rfl Ag Z Z Z)) ?_
     first | refine AE [25] [20] Z Z (fun _=>AB (AY Z Z AR rfl)) ?_ | refine AE [25] [20] Z Z (fun _=>AB (AW Z Z Z AR rfl)) ?_ | refine AE [25] [20] Z Z (fun _=>AB (AX Z Z (rfl) rfl AR rfl)) ?_
     first | refine AE [1] [] Z Z (fun _=>AB (Aa Z Z)) ?_ | refine AH [1] Z Z (fun _=>AB (Aa Z Z)) ?_
     first | refine AE [26,27] [] Z Z (fun _=>AB (DW (EI w.R x (by omega)) Z Z)) ?_ | refine AH [26,27] Z Z (fun _=>AB (DW (EI w.R x (by omega)) Z Z)) ?_
     first | refine AE [2] [] Z Z (fun _=>AB (A2 rfl Ah Z Z Z)) ?_ | refine AH [2] Z Z (fun _=>AB (A2 rfl Ah Z Z Z)) ?_ | refine AE [2] [] Z Z (fun _=>AB (A4 rfl Ah Z Z Z)) ?_ | refine AH [2] Z Z (fun _=>AB (A4 rfl Ah Z Z Z)) ?_ | refine AE [2] [] Z Z (fun _=>AB (A5 rfl Ah Z Z Z)) ?_ | refine AH [2] Z Z (fun _=>AB (A5 rfl Ah Z Z Z)) ?_ | refine AE [2] [] Z Z (fun _=>AB (A3 rfl Ah Z Z Z)) ?_ | refine AH [2] Z Z (fun _=>AB (A3 rfl Ah Z Z Z)) ?_ | refine AE [2] [] Z Z (fun _=>AB (A1 rfl Ah Z Z Z)) ?_ | refine AH [2] Z Z (fun _=>AB (A1 rfl Ah Z Z Z)) ?_
     first | refine AE [29] [20] Z Z (fun _=>AB (AY Z Z Aw rfl)) ?_ | refine AE [29] [20] Z Z (fun _=>AB (AW Z Z Z Aw rfl)) ?_ | refine AE [29] [20] Z Z (fun _=>AB (AX Z Z (rfl) rfl Aw rfl)) ?_
     refine EL 6 Z Z Z (B6 7 Z Z (J (M8 ES Lb Z Z Z) (AF ⟨rfl,?_⟩)));refine B6 8 Z Z (U (Bu Z Z Z Z Z Z Z Bh) (AF ⟨rfl,?_⟩));refine B6 9 Z Z (AD Z Z (AF ⟨rfl,?_⟩));refine Es (Ay ?_);exact ⟨_,[],[],Av rfl,rfl,rfl,by rw [NR (by omega) h18 (by omega)],rfl⟩
noncomputable def gD (w:Ws):D:=if acyW w=true then DF (groupsW w) else .sl (some true) []
theorem CR (w:Ws) (hw:Ba w) (hl:w.K.length≤2000000):B4 Try.prog 37 [.d (LH w)] (.tup [gD w,Ar (acyW w)]):=by
 have h:=L9 w hw hl;unfold gD
 by_cases hc:acyW w=true
 ·rw [if_pos hc] at h⊢;rw [hc];exact h
 ·rw [if_neg hc] at h⊢;rw [Bool.eq_false_iff.2 hc];exact h
set_option maxHeartbeats 4000000 in
theorem K6 (w:Ws) (hw:Ba w) (hK:w.K.length≤1000000) (l:Lw):B4 Try.prog 35 [.d (LH w),.d (Nf l)] (.tup [LH (lnkW w l).1,Bt (lnkW w l).2]):=by
 have hfew:=hw.few;refine DY Try.func35 Z Z Try.ntmps35 Z Z Z fun F hF=>(AG ?_);refine AI (U (Iz 20 Z Z Z Z Z Z Z) (U (Iz 21 Z Z Z Z Z Z Z) (U (IF 22 ES Z Z Z Z) (AD Z Z (AF (AG (AG (AI ?_))))))))
 first | refine J (A2 rfl KK Z Z Z) ?_ | refine J (A4 rfl KK Z Z Z) ?_ | refine J (A5 rfl KK Z Z Z) ?_ | refine J (A3 rfl KK Z Z Z) ?_ | refine J (A1 rfl KK Z Z Z) ?_
 first | refine J (AY Z Z B8 rfl) ?_ | refine J (AW Z Z Z B8 rfl) ?_ | refine J (AX Z Z (rfl) rfl B8 rfl) ?_
 first | refine J (IH Z Z Z) ?_ | refine J (IG Z Z Z) ?_ | refine J (Hm Z Z Z) ?_ | refine J (IB Try.underlying3 Z Z Z) ?_ | refine J (ID Try.underlying3 Z Z Z) ?_ | refine J (st_neqN Try.underlying3 Z Z) ?_ | refine J (st_neqPr Try.underlying3 Z Z) ?_ | refine J (st_neqMz Try.underlying3 Z Z) ?_ | refine J (IC Try.underlying3 Z Z Z) ?_ | refine J (st_neqFN Try.underlying3 Z Z) ?_
 refine AC Z Z ?_
 first | refine KL 12 rfl (fun h12=>?_) (fun h12=>?_) | refine JH 12 rfl (fun h12=>?_) (fun h12=>?_)
 ·refine Ab Z Z Z ?_
  first | refine J (A2 rfl KK Z Z Z) ?_ | refine J (A4 rfl KK Z Z Z) ?_ | refine J (A5 rfl KK Z Z Z) ?_ | refine J (A3 rfl KK Z Z Z) ?_ | refine J (A1 rfl KK Z Z Z) ?_
  refine Ab Z Z Z ?_
  first | refine J (AY Z Z B8 rfl) ?_ | refine J (AW Z Z Z B8 rfl) ?_ | refine J (AX Z Z (rfl) rfl B8 rfl) ?_
  refine Ab Z Z Z ?_
  first | refine J (IH Z Z Z) ?_ | refine J (IG Z Z Z) ?_ | refine J (Hm Z Z Z) ?_ | refine J (IB Try.underlying3 Z Z Z) ?_ | refine J (ID Try.underlying3 Z Z Z) ?_ | refine J (st_neqN Try.underlying3 Z Z) ?_ | refine J (st_neqPr Try.underlying3 Z Z) ?_ | refine J (st_neqMz Try.underlying3 Z Z) ?_ | refine J (IC Try.underlying3 Z Z Z) ?_ | refine J (st_neqFN Try.underlying3 Z Z) ?_
  refine J (H8 Z Z Z Z) (AF ?_)
  first | refine BG rfl (fun h16=>?_) (fun h16=>?_) | refine BB rfl (fun h16=>?_) (fun h16=>?_)
  ·refine AG (AI ?_)
   first | refine J (BW Z Z AP rfl) ?_ | refine J (BX Z Z AP Z Z Z) ?_ | refine J (BY Z Z (rfl) rfl AP rfl) ?_
   refine U (Bu Z Z Z Z Z Z Z Bh) (AD Z Z (AF (Ay ?_)));exact ⟨_,[],[],Av rfl,rfl,rfl,by rw [QE h12 h16],rfl⟩
  ·refine An (AG (AG (AI ?_)))
   first | refine J (A2 rfl Ag Z Z Z) ?_ | refine J (A4 rfl Ag Z Z Z) ?_ | refine J (A5 rfl Ag Z Z Z) ?_ | refine J (A3 rfl Ag Z Z Z) ?_ | refine J (A1 rfl Ag Z Z Z) ?_
   first | refine J (AY Z Z AR rfl) ?_ | refine J (AW Z Z Z AR rfl) ?_ | refine J (AX Z Z (rfl) rfl AR rfl) ?_
   first | refine J (A2 rfl CC Z Z Z) ?_ | refine J (A4 rfl CC Z Z Z) ?_ | refine J (A5 rfl CC Z Z Z) ?_ | refine J (A3 rfl CC Z Z Z) ?_ | refine J (A1 rfl CC Z Z Z) ?_
   first | refine J (AY Z Z AZ rfl) ?_ | refine J (AW Z Z Z AZ rfl) ?_ | refine J (AX Z Z (rfl) rfl AZ rfl) ?_
   refine J (DW (Bj w.R l.f (by omega)) Z Z) ?_
   first | refine J (El Z Z) ?_ | refine J (Ek Z Z) ?_
   refine AC Z Z ?_
   first | refine KL 24 rfl (fun h24=>?_) (fun h24=>?_) | refine JH 24 rfl (fun h24=>?_) (fun h24=>?_)
   ·refine BH Z Z Z Z (BH Z Z Z Z ?_);refine BH Z Z Z Z (BH Z Z Z Z (BH Z Z Z Z (BH Z Z Z Z (J (H8 Z Z Z Z) (AF (Kx Z Z (AG (AI ?_))))))))
    first | refine J (BW Z Z AP rfl) ?_ | refine J (BX Z Z AP Z Z Z) ?_ | refine J (BY Z Z (rfl) rfl AP rfl) ?_
    refine U (Bu Z Z Z Z Z Z Z Bh) (AD Z Z (AF (Ay ?_)));have h9:lnkW w l=(w,9):=Lz (by first | exact .inl (Classical.not_not.1 h12) | exact .inr (Classical.not_not.1 h16)) (by first | exact .inl h24 | exact .inr h31);exact ⟨_,[],[],Av rfl,rfl,rfl,by rw [h9],rfl⟩
   ·refine Ab Z Z Z ?_
    first | refine J (A2 rfl Ag Z Z Z) ?_ | refine J (A4 rfl Ag Z Z Z) ?_ | refine J (A5 rfl Ag Z Z Z) ?_ | refine J (A3 rfl Ag Z Z Z) ?_ | refine J (A1 rfl Ag Z Z Z) ?_
    refine Ab Z Z Z ?_
    first | refine J (AY Z Z AR rfl) ?_ | refine J (AW Z Z Z AR rfl) ?_ | refine J (AX Z Z (rfl) rfl AR rfl) ?_
    refine Ab Z Z Z ?_
    first | refine J (A2 rfl Cd Z Z Z) ?_ | refine J (A4 rfl Cd Z Z Z) ?_ | refine J (A5 rfl Cd Z Z Z) ?_ | refine J (A3 rfl Cd Z Z Z) ?_ | refine J (A1 rfl Cd Z Z Z) ?_
    refine Ab Z Z Z ?_
    first | refine J (AY Z Z AZ rfl) ?_ | refine J (AW Z Z Z AZ rfl) ?_ | refine J (AX Z Z (rfl) rfl AZ rfl) ?_
    refine Ab Z Z Z (J (DW (Bj w.R l.r (by omega)) Z Z) (Ab Z Z Z ?_))
    first | refine J (El Z Z) ?_ | refine J (Ek Z Z) ?_
    refine J (GR Z Z Z Z) (AF ?_)
    first | refine BG rfl (fun h31=>?_) (fun h31=>?_) | refine BB rfl (fun h31=>?_) (fun h31=>?_)
    ·refine AG (AI ?_)
     first | refine J (BW Z Z AP rfl) ?_ | refine J (BX Z Z AP Z Z Z) ?_ | refine J (BY Z Z (rfl) rfl AP rfl) ?_
     refine U (Bu Z Z Z Z Z Z Z Bh) (AD Z Z (AF (Ay ?_)));have h9:lnkW w l=(w,9):=Lz (by first | exact .inl (Classical.not_not.1 h12) | exact .inr (Classical.not_not.1 h16)) (by first | exact .inl h24 | exact .inr h31);exact ⟨_,[],[],Av rfl,rfl,rfl,by rw [h9],rfl⟩
    ·refine An (AG (AG ?_));have ht:l.t=0∨l.t=1:=by first | exact .inl (Classical.not_not.1 h12) | exact .inr (Classical.not_not.1 h16)
     have hfR:l.f∈w.R:=Classical.not_not.1 h24;have hrR:l.r∈w.R:=Classical.not_not.1 h31;refine AI ?_
     first | refine J (A2 rfl CC Z Z Z) ?_ | refine J (A4 rfl CC Z Z Z) ?_ | refine J (A5 rfl CC Z Z Z) ?_ | refine J (A3 rfl CC Z Z Z) ?_ | refine J (A1 rfl CC Z Z Z) ?_
     first | refine J (AY Z Z AZ rfl) ?_ | refine J (AW Z Z Z AZ rfl) ?_ | refine J (AX Z Z (rfl) rfl AZ rfl) ?_
     first | refine J (A2 rfl Cd Z Z Z) ?_ | refine J (A4 rfl Cd Z Z Z) ?_ | refine J (A5 rfl Cd Z Z Z) ?_ | refine J (A3 rfl Cd Z Z Z) ?_ | refine J (A1 rfl Cd Z Z Z) ?_
     first | refine J (AY Z Z AZ rfl) ?_ | refine J (AW Z Z Z AZ rfl) ?_ | refine J (AX Z Z (rfl) rfl AZ rfl) ?_
     first | refine J (FP Z Z Z) ?_ | refine J (FX Z Z Z) ?_ | refine J (Et Z Z Z) ?_ | refine J (FQ Try.underlying9 Z Z Z) ?_ | refine J (FT Try.underlying9 Z Z Z) ?_ | refine J (fSq Try.underlying9 Z Z) ?_ | refine J (FW Try.underlying9 Z Z) ?_ | refine J (FV Try.underlying9 Z Z) ?_ | refine J (FR Try.underlying9 Z Z Z) ?_ | refine J (FU Try.underlying9 Z Z) ?_
     refine AF ?_
     first | refine BG rfl (fun h37=>?_) (fun h37=>?_) | refine BB rfl (fun h37=>?_) (fun h37=>?_)
     ·refine AG (AI ?_)
      first | refine J (BW Z Z AP rfl) ?_ | refine J (BX Z Z AP Z Z Z) ?_ | refine J (BY Z Z (rfl) rfl AP rfl) ?_
      refine U (Bu Z Z Z Z Z Z Z Bh) (AD Z Z (AF (Ay ?_)));exact ⟨_,[],[],Av rfl,rfl,rfl,by rw [Jq ht hfR hrR h37],rfl⟩
     ·refine An (AG (AG (AI ?_)))
      first | refine J (BW Z Z AP rfl) ?_ | refine J (BX Z Z AP Z Z Z) ?_ | refine J (BY Z Z (rfl) rfl AP rfl) ?_
      first | refine J (BW Z Z As rfl) ?_ | refine J (BX Z Z As Z Z Z) ?_ | refine J (BY Z Z (rfl) rfl As rfl) ?_
      refine J (DW (NJ w l (by omega)) Z Z) (AF ?_)
      first | refine BG rfl (fun h41=>?_) (fun h41=>?_) | refine BB rfl (fun h41=>?_) (fun h41=>?_)
      ·refine AG (AI ?_)
       first | refine J (BW Z Z AP rfl) ?_ | refine J (BX Z Z AP Z Z Z) ?_ | refine J (BY Z Z (rfl) rfl AP rfl) ?_
       refine U (Bu Z Z Z Z Z Z Z Bh) (AD Z Z (AF (Ay ?_)));exact ⟨_,[],[],Av rfl,rfl,rfl,by rw [lnk7 ht hfR hrR h37 h41],rfl⟩
      ·refine An (AG ?_);have hok1:=hw.with_ ht hfR hrR h37 h41;refine Fh [[],[0],[],[],[3],[2,3,4],[],[6],[2,3,4,5,6,7],[0,1,2,3,4,5,6,7,8],[],[0,1,2,3,4,5,6,7,8,9,10]] mixed rfl (EK ?_)
       first | refine AE [2] [] Z Z (fun _=>AB (A2 rfl Ag Z Z Z)) ?_ | refine AH [2] Z Z (fun _=>AB (A2 rfl Ag Z Z Z)) ?_ | refine AE [2] [] Z Z (fun _=>AB (A4 rfl Ag Z Z Z)) ?_ | refine AH [2] Z Z (fun _=>AB (A4 rfl Ag Z Z Z)) ?_ | refine AE [2] [] Z Z (fun _=>AB (A5 rfl Ag Z Z Z)) ?_ | refine AH [2] Z Z (fun _=>AB (A5 rfl Ag Z Z Z)) ?_ | refine AE [2] [] Z Z (fun _=>AB (A3 rfl Ag Z Z Z)) ?_ | refine AH [2] Z Z (fun _=>AB (A3 rfl Ag Z Z Z)) ?_ | refine AE [2] [] Z Z (fun _=>AB (A1 rfl Ag Z Z Z)) ?_ | refine AH [2] Z Z (fun _=>AB (A1 rfl Ag Z Z Z)) ?_
       first | refine AE [43] [20] Z Z (fun _=>AB (AY Z Z AR rfl)) ?_ | refine AE [43] [20] Z Z (fun _=>AB (AW Z Z Z AR rfl)) ?_ | refine AE [43] [20] Z Z (fun _=>AB (AX Z Z (rfl) rfl AR rfl)) ?_
       refine Bs [] [30] [(45,_)] Z Z (fun _=>Hl (Gl 30 Em Z Z Z Z Z Z Z Z)) (.inr ⟨45,_,rfl,rfl,rfl,rfl,rfl⟩) Z Z Z Z Z ?_
       first | refine AE [2] [] Z Z (fun _=>AB (A2 rfl Ah Z Z Z)) ?_ | refine AH [2] Z Z (fun _=>AB (A2 rfl Ah Z Z Z)) ?_ | refine AE [2] [] Z Z (fun _=>AB (A4 rfl Ah Z Z Z)) ?_ | refine AH [2] Z Z (fun _=>AB (A4 rfl Ah Z Z Z)) ?_ | refine AE [2] [] Z Z (fun _=>AB (A5 rfl Ah Z Z Z)) ?_ | refine AH [2] Z Z (fun _=>AB (A5 rfl Ah Z Z Z)) ?_ | refine AE [2] [] Z Z (fun _=>AB (A3 rfl Ah Z Z Z)) ?_ | refine AH [2] Z Z (fun _=>AB (A3 rfl Ah Z Z Z)) ?_ | refine AE [2] [] Z Z (fun _=>AB (A1 rfl Ah Z Z Z)) ?_ | refine AH [2] Z Z (fun _=>AB (A1 rfl Ah Z Z Z)) ?_
       first | refine AE [46] [20] Z Z (fun _=>AB (AY Z Z Aw rfl)) ?_ | refine AE [46] [20] Z Z (fun _=>AB (AW Z Z Z Aw rfl)) ?_ | refine AE [46] [20] Z Z (fun _=>AB (AX Z Z (rfl) rfl Aw rfl)) ?_
       refine Bs [45,47] [30] [(48,_)] Z Z (fun _=>Hl (KM (emb:=Nf) [] w.K Z Z Z Z Z Z (fun _=>rfl) Em (by show (0+w.K.length)*40≤_;omega) Z Z Z Z)) (.inr ⟨48,_,rfl,rfl,rfl,rfl,rfl⟩) Z Z Z Z Z ?_
       first | refine AE [3] [21] Z Z (fun _=>AB (BW Z Z As rfl)) ?_ | refine AE [3] [21] Z Z (fun _=>AB (BX Z Z As Z Z Z)) ?_ | refine AE [3] [21] Z Z (fun _=>AB (BY Z Z (rfl) rfl As rfl)) ?_
       refine Bs [49] [31] [(50,_)] Z Z (fun _=>Hl (Gl 31 Em Z Z Z Z Z Z Z Z)) (.inr ⟨50,_,rfl,rfl,rfl,rfl,rfl⟩) Z Z Z Z Z ?_
       first | refine Iq [45] [48,50] [30,31] [(51,_)] Z Z (fun _=>Hl (JE (w.K) ([l]) Z Z Z Z Z Z Z Z Em (by simp only [List.length_singleton];omega) Z Z Z Z)) (.inr ⟨51,_,rfl,rfl,rfl,rfl,rfl⟩) Z Z Z Z Z ?_ | refine Iq [45] [48,50] [30,31] [(51,_)] Z Z (fun _=>Hl (KM (w.K) ([l]) Z Z Z Z Z Z (fun _=>rfl) Em (by simp only [List.length_singleton];omega) Z Z Z Z)) (.inr ⟨51,_,rfl,rfl,rfl,rfl,rfl⟩) Z Z Z Z Z ?_
       first | refine AE [44,51] [] Z Z (fun _=>AB (M8 ES Lb Z Z Z)) ?_ | refine AH [44,51] Z Z (fun _=>AB (M8 ES Lb Z Z Z)) ?_
       refine Bs [] [32] [(6,_)] Z Z (fun _=>Hl (IF 32 ES Z Z Z Z)) (.inr ⟨6,_,rfl,rfl,rfl,rfl,rfl⟩) Z Z Z Z Z (EL 11 Z Z Z (B6 12 Z Z (U (Bu Z Z Z Z Z Z Z Bh) (AF ⟨rfl,?_⟩))));refine Es (AG (AG (CM (ys:=(w.K++ [l]).map Nf) 32 0 1 30 Z Z Z (Nat.le_of_eq (by rw [List.length_map])) (List.take_of_length_le (by rw [List.length_map];exact Nat.le_refl _)) Z Z Z Z Z Z (AI ?_))))
       first | refine J (BW Z Z AP rfl) ?_ | refine J (BX Z Z AP Z Z Z) ?_ | refine J (BY Z Z (rfl) rfl AP rfl) ?_
       refine J (DW (CR (BQ w l) hok1 (by show (w.K++ [l]).length≤_;rw [List.length_append,List.length_singleton];omega)) Z Z) (AC Z Z ?_)
       first | refine J (Bo Z Z Z) ?_ | refine J (Bn Z Z Z) ?_
       first | refine J (Bo Z Z Z) ?_ | refine J (Bn Z Z Z) ?_
       refine AD Z Z (AD Z Z (AF (AG ?_)));have h0:=NC ht hfR hrR h37 h41;refine AI (AC Z Z ?_)
       first | refine J (El Z Z) ?_ | refine J (Ek Z Z) ?_
       refine AF ?_
       first | refine BG rfl (fun h59=>?_) (fun h59=>?_) | refine BB rfl (fun h59=>?_) (fun h59=>?_)
       ·refine AG (AI ?_)
        first | refine J (BW Z Z AP rfl) ?_ | refine J (BX Z Z AP Z Z Z) ?_ | refine J (BY Z Z (rfl) rfl AP rfl) ?_
        refine U (Bu Z Z Z Z Z Z Z Bh) (AD Z Z (AF (Ay ?_)));have hac:acyW (BQ w l)=false:=by simpa using h59
        exact ⟨_,[],[],Av rfl,rfl,rfl,by rw [h0,hac];rfl,rfl⟩
       ·refine An (AG (AI ?_))
        first | refine J (BW Z Z AP rfl) ?_ | refine J (BX Z Z AP Z Z Z) ?_ | refine J (BY Z Z (rfl) rfl AP rfl) ?_
        refine U (Bu Z Z Z Z Z Z Z Bh) (AD Z Z (AF (Ay ?_)));have hac:acyW (BQ w l)=true:=by simpa using h59
        exact ⟨_,[],[],Av rfl,rfl,rfl,by rw [h0,if_pos hac];rfl,rfl⟩
 ·refine BH Z Z Z Z ?_;refine BH Z Z Z Z (BH Z Z Z Z (J (GR Z Z Z Z) (AF (Dk Z Z (An (AG (AG (AI ?_))))))))
  first | refine J (A2 rfl Ag Z Z Z) ?_ | refine J (A4 rfl Ag Z Z Z) ?_ | refine J (A5 rfl Ag Z Z Z) ?_ | refine J (A3 rfl Ag Z Z Z) ?_ | refine J (A1 rfl Ag Z Z Z) ?_
  first | refine J (AY Z Z AR rfl) ?_ | refine J (AW Z Z Z AR rfl) ?_ | refine J (AX Z Z (rfl) rfl AR rfl) ?_
  first | refine J (A2 rfl CC Z Z Z) ?_ | refine J (A4 rfl CC Z Z Z) ?_ | refine J (A5 rfl CC Z Z Z) ?_ | refine J (A3 rfl CC Z Z Z) ?_ | refine J (A1 rfl CC Z Z Z) ?_
  first | refine J (AY Z Z AZ rfl) ?_ | refine J (AW Z Z Z AZ rfl) ?_ | refine J (AX Z Z (rfl) rfl AZ rfl) ?_
  refine J (DW (Bj w.R l.f (by omega)) Z Z) ?_
  first | refine J (El Z Z) ?_ | refine J (Ek Z Z) ?_
  refine AC Z Z ?_
  first | refine KL 24 rfl (fun h24=>?_) (fun h24=>?_) | refine JH 24 rfl (fun h24=>?_) (fun h24=>?_)
  ·refine BH Z Z Z Z (BH Z Z Z Z ?_);refine BH Z Z Z Z (BH Z Z Z Z (BH Z Z Z Z (BH Z Z Z Z (J (H8 Z Z Z Z) (AF (Kx Z Z (AG (AI ?_))))))))
   first | refine J (BW Z Z AP rfl) ?_ | refine J (BX Z Z AP Z Z Z) ?_ | refine J (BY Z Z (rfl) rfl AP rfl) ?_
   refine U (Bu Z Z Z Z Z Z Z Bh) (AD Z Z (AF (Ay ?_)));have h9:lnkW w l=(w,9):=Lz (by first | exact .inl (Classical.not_not.1 h12) | exact .inr (Classical.not_not.1 h16)) (by first | exact .inl h24 | exact .inr h31);exact ⟨_,[],[],Av rfl,rfl,rfl,by rw [h9],rfl⟩
  ·refine Ab Z Z Z ?_
   first | refine J (A2 rfl Ag Z Z Z) ?_ | refine J (A4 rfl Ag Z Z Z) ?_ | refine J (A5 rfl Ag Z Z Z) ?_ | refine J (A3 rfl Ag Z Z Z) ?_ | refine J (A1 rfl Ag Z Z Z) ?_
   refine Ab Z Z Z ?_
   first | refine J (AY Z Z AR rfl) ?_ | refine J (AW Z Z Z AR rfl) ?_ | refine J (AX Z Z (rfl) rfl AR rfl) ?_
   refine Ab Z Z Z ?_
   first | refine J (A2 rfl Cd Z Z Z) ?_ | refine J (A4 rfl Cd Z Z Z) ?_ | refine J (A5 rfl Cd Z Z Z) ?_ | refine J (A3 rfl Cd Z Z Z) ?_ | refine J (A1 rfl Cd Z Z Z) ?_
   refine Ab Z Z Z ?_
   first | refine J (AY Z Z AZ rfl) ?_ | refine J (AW Z Z Z AZ rfl) ?_ | refine J (AX Z Z (rfl) rfl AZ rfl) ?_
   refine Ab Z Z Z (J (DW (Bj w.R l.r (by omega)) Z Z) (Ab Z Z Z ?_))
   first | refine J (El Z Z) ?_ | refine J (Ek Z Z) ?_
   refine J (GR Z Z Z Z) (AF ?_)
   first | refine BG rfl (fun h31=>?_) (fun h31=>?_) | refine BB rfl (fun h31=>?_) (fun h31=>?_)
   ·refine AG (AI ?_)
    first | refine J (BW Z Z AP rfl) ?_ | refine J (BX Z Z AP Z Z Z) ?_ | refine J (BY Z Z (rfl) rfl AP rfl) ?_
    refine U (Bu Z Z Z Z Z Z Z Bh) (AD Z Z (AF (Ay ?_)));have h9:lnkW w l=(w,9):=Lz (by first | exact .inl (Classical.not_not.1 h12) | exact .inr (Classical.not_not.1 h16)) (by first | exact .inl h24 | exact .inr h31);exact ⟨_,[],[],Av rfl,rfl,rfl,by rw [h9],rfl⟩
   ·refine An (AG (AG ?_));have ht:l.t=0∨l.t=1:=by first | exact .inl (Classical.not_not.1 h12) | exact .inr (Classical.not_not.1 h16)
    have hfR:l.f∈w.R:=Classical.not_not.1 h24;have hrR:l.r∈w.R:=Classical.not_not.1 h31;refine AI ?_
    first | refine J (A2 rfl CC Z Z Z) ?_ | refine J (A4 rfl CC Z Z Z) ?_ | refine J (A5 rfl CC Z Z Z) ?_ | refine J (A3 rfl CC Z Z Z) ?_ | refine J (A1 rfl CC Z Z Z) ?_
    first | refine J (AY Z Z AZ rfl) ?_ | refine J (AW Z Z Z AZ rfl) ?_ | refine J (AX Z Z (rfl) rfl AZ rfl) ?_
    first | refine J (A2 rfl Cd Z Z Z) ?_ | refine J (A4 rfl Cd Z Z Z) ?_ | refine J (A5 rfl Cd Z Z Z) ?_ | refine J (A3 rfl Cd Z Z Z) ?_ | refine J (A1 rfl Cd Z Z Z) ?_
    first | refine J (AY Z Z AZ rfl) ?_ | refine J (AW Z Z Z AZ rfl) ?_ | refine J (AX Z Z (rfl) rfl AZ rfl) ?_
    first | refine J (FP Z Z Z) ?_ | refine J (FX Z Z Z) ?_ | refine J (Et Z Z Z) ?_ | refine J (FQ Try.underlying9 Z Z Z) ?_ | refine J (FT Try.underlying9 Z Z Z) ?_ | refine J (fSq Try.underlying9 Z Z) ?_ | refine J (FW Try.underlying9 Z Z) ?_ | refine J (FV Try.underlying9 Z Z) ?_ | refine J (FR Try.underlying9 Z Z Z) ?_ | refine J (FU Try.underlying9 Z Z) ?_
    refine AF ?_
    first | refine BG rfl (fun h37=>?_) (fun h37=>?_) | refine BB rfl (fun h37=>?_) (fun h37=>?_)
    ·refine AG (AI ?_)
     first | refine J (BW Z Z AP rfl) ?_ | refine J (BX Z Z AP Z Z Z) ?_ | refine J (BY Z Z (rfl) rfl AP rfl) ?_
     refine U (Bu Z Z Z Z Z Z Z Bh) (AD Z Z (AF (Ay ?_)));exact ⟨_,[],[],Av rfl,rfl,rfl,by rw [Jq ht hfR hrR h37],rfl⟩
    ·refine An (AG (AG (AI ?_)))
     first | refine J (BW Z Z AP rfl) ?_ | refine J (BX Z Z AP Z Z Z) ?_ | refine J (BY Z Z (rfl) rfl AP rfl) ?_
     first | refine J (BW Z Z As rfl) ?_ | refine J (BX Z Z As Z Z Z) ?_ | refine J (BY Z Z (rfl) rfl As rfl) ?_
     refine J (DW (NJ w l (by omega)) Z Z) (AF ?_)
     first | refine BG rfl (fun h41=>?_) (fun h41=>?_) | refine BB rfl (fun h41=>?_) (fun h41=>?_)
     ·refine AG (AI ?_)
      first | refine J (BW Z Z AP rfl) ?_ | refine J (BX Z Z AP Z Z Z) ?_ | refine J (BY Z Z (rfl) rfl AP rfl) ?_
      refine U (Bu Z Z Z Z Z Z Z Bh) (AD Z Z (AF (Ay ?_)));exact ⟨_,[],[],Av rfl,rfl,rfl,by rw [lnk7 ht hfR hrR h37 h41],rfl⟩
     ·refine An (AG ?_);have hok1:=hw.with_ ht hfR hrR h37 h41;refine Fh [[],[0],[],[],[3],[2,3,4],[],[6],[2,3,4,5,6,7],[0,1,2,3,4,5,6,7,8],[],[0,1,2,3,4,5,6,7,8,9,10]] mixed rfl (EK ?_)
      first | refine AE [2] [] Z Z (fun _=>AB (A2 rfl Ag Z Z Z)) ?_ | refine AH [2] Z Z (fun _=>AB (A2 rfl Ag Z Z Z)) ?_ | refine AE [2] [] Z Z (fun _=>AB (A4 rfl Ag Z Z Z)) ?_ | refine AH [2] Z Z (fun _=>AB (A4 rfl Ag Z Z Z)) ?_ | refine AE [2] [] Z Z (fun _=>AB (A5 rfl Ag Z Z Z)) ?_ | refine AH [2] Z Z (fun _=>AB (A5 rfl Ag Z Z Z)) ?_ | refine AE [2] [] Z Z (fun _=>AB (A3 rfl Ag Z Z Z)) ?_ | refine AH [2] Z Z (fun _=>AB (A3 rfl Ag Z Z Z)) ?_ | refine AE [2] [] Z Z (fun _=>AB (A1 rfl Ag Z Z Z)) ?_ | refine AH [2] Z Z (fun _=>AB (A1 rfl Ag Z Z Z)) ?_
      first | refine AE [43] [20] Z Z (fun _=>AB (AY Z Z AR rfl)) ?_ | refine AE [43] [20] Z Z (fun _=>AB (AW Z Z Z AR rfl)) ?_ | refine AE [43] [20] Z Z (fun _=>AB (AX Z Z (rfl) rfl AR rfl)) ?_
      refine Bs [] [30] [(45,_)] Z Z (fun _=>Hl (Gl 30 Em Z Z Z Z Z Z Z Z)) (.inr ⟨45,_,rfl,rfl,rfl,rfl,rfl⟩) Z Z Z Z Z ?_
      first | refine AE [2] [] Z Z (fun _=>AB (A2 rfl Ah Z Z Z)) ?_ | refine AH [2] Z Z (fun _=>AB (A2 rfl Ah Z Z Z)) ?_ | refine AE [2] [] Z Z (fun _=>AB (A4 rfl Ah Z Z Z)) ?_ | refine AH [2] Z Z (fun _=>AB (A4 rfl Ah Z Z Z)) ?_ | refine AE [2] [] Z Z (fun _=>AB (A5 rfl Ah Z Z Z)) ?_ | refine AH [2] Z Z (fun _=>AB (A5 rfl Ah Z Z Z)) ?_ | refine AE [2] [] Z Z (fun _=>AB (A3 rfl Ah Z Z Z)) ?_ | refine AH [2] Z Z (fun _=>AB (A3 rfl Ah Z Z Z)) ?_ | refine AE [2] [] Z Z (fun _=>AB (A1 rfl Ah Z Z Z)) ?_ | refine AH [2] Z Z (fun _=>AB (A1 rfl Ah Z Z Z)) ?_
      first | refine AE [46] [20] Z Z (fun _=>AB (AY Z Z Aw rfl)) ?_ | refine AE [46] [20] Z Z (fun _=>AB (AW Z Z Z Aw rfl)) ?_ | refine AE [46] [20] Z Z (fun _=>AB (AX Z Z (rfl) rfl Aw rfl)) ?_
      refine Bs [45,47] [30] [(48,_)] Z Z (fun _=>Hl (KM (emb:=Nf) [] w.K Z Z Z Z Z Z (fun _=>rfl) Em (by show (0+w.K.length)*40≤_;omega) Z Z Z Z)) (.inr ⟨48,_,rfl,rfl,rfl,rfl,rfl⟩) Z Z Z Z Z ?_
      first | refine AE [3] [21] Z Z (fun _=>AB (BW Z Z As rfl)) ?_ | refine AE [3] [21] Z Z (fun _=>AB (BX Z Z As Z Z Z)) ?_ | refine AE [3] [21] Z Z (fun _=>AB (BY Z Z (rfl) rfl As rfl)) ?_
      refine Bs [49] [31] [(50,_)] Z Z (fun _=>Hl (Gl 31 Em Z Z Z Z Z Z Z Z)) (.inr ⟨50,_,rfl,rfl,rfl,rfl,rfl⟩) Z Z Z Z Z ?_
      first | refine Iq [45] [48,50] [30,31] [(51,_)] Z Z (fun _=>Hl (JE (w.K) ([l]) Z Z Z Z Z Z Z Z Em (by simp only [List.length_singleton];omega) Z Z Z Z)) (.inr ⟨51,_,rfl,rfl,rfl,rfl,rfl⟩) Z Z Z Z Z ?_ | refine Iq [45] [48,50] [30,31] [(51,_)] Z Z (fun _=>Hl (KM (w.K) ([l]) Z Z Z Z Z Z (fun _=>rfl) Em (by simp only [List.length_singleton];omega) Z Z Z Z)) (.inr ⟨51,_,rfl,rfl,rfl,rfl,rfl⟩) Z Z Z Z Z ?_
      first | refine AE [44,51] [] Z Z (fun _=>AB (M8 ES Lb Z Z Z)) ?_ | refine AH [44,51] Z Z (fun _=>AB (M8 ES Lb Z Z Z)) ?_
      refine Bs [] [32] [(6,_)] Z Z (fun _=>Hl (IF 32 ES Z Z Z Z)) (.inr ⟨6,_,rfl,rfl,rfl,rfl,rfl⟩) Z Z Z Z Z (EL 11 Z Z Z (B6 12 Z Z (U (Bu Z Z Z Z Z Z Z Bh) (AF ⟨rfl,?_⟩))));refine Es (AG (AG (CM (ys:=(w.K++ [l]).map Nf) 32 0 1 30 Z Z Z (Nat.le_of_eq (by rw [List.length_map])) (List.take_of_length_le (by rw [List.length_map];exact Nat.le_refl _)) Z Z Z Z Z Z (AI ?_))))
      first | refine J (BW Z Z AP rfl) ?_ | refine J (BX Z Z AP Z Z Z) ?_ | refine J (BY Z Z (rfl) rfl AP rfl) ?_
      refine J (DW (CR (BQ w l) hok1 (by show (w.K++ [l]).length≤_;rw [List.length_append,List.length_singleton];omega)) Z Z) (AC Z Z ?_)
      first | refine J (Bo Z Z Z) ?_ | refine J (Bn Z Z Z) ?_
      first | refine J (Bo Z Z Z) ?_ | refine J (Bn Z Z Z) ?_
      refine AD Z Z (AD Z Z (AF (AG ?_)));have h0:=NC ht hfR hrR h37 h41;refine AI (AC Z Z ?_)
      first | refine J (El Z Z) ?_ | refine J (Ek Z Z) ?_
      refine AF ?_
      first | refine BG rfl (fun h59=>?_) (fun h59=>?_) | refine BB rfl (fun h59=>?_) (fun h59=>?_)
      ·refine AG (AI ?_)
       first | refine J (BW Z Z AP rfl) ?_ | refine J (BX Z Z AP Z Z Z) ?_ | refine J (BY Z Z (rfl) rfl AP rfl) ?_
       refine U (Bu Z Z Z Z Z Z Z Bh) (AD Z Z (AF (Ay ?_)));have hac:acyW (BQ w l)=false:=by simpa using h59
       exact ⟨_,[],[],Av rfl,rfl,rfl,by rw [h0,hac];rfl,rfl⟩
      ·refine An (AG (AI ?_))
       first | refine J (BW Z Z AP rfl) ?_ | refine J (BX Z Z AP Z Z Z) ?_ | refine J (BY Z Z (rfl) rfl AP rfl) ?_
       refine U (Bu Z Z Z Z Z Z Z Bh) (AD Z Z (AF (Ay ?_)));have hac:acyW (BQ w l)=true:=by simpa using h59
       exact ⟨_,[],[],Av rfl,rfl,rfl,by rw [h0,if_pos hac];rfl,rfl⟩
theorem lw_neC (a b:Lw):(!Ax (lwC a) (lwC b))=decide (¬a=b):=by rw [QA];simp
def Hb (l:Lw) (K:List Lw) (k:Nat):List Lw:=(K.take k).filter fun x=>!decide (x=l)
theorem PQ {l:Lw} {K:List Lw} {k:Nat} (hk:k<K.length) (h:¬K[k] =l):Hb l K (k+1)=Hb l K k++ [K[k]]:=by
 unfold Hb;rw [List.take_succ_eq_append_getElem hk,List.filter_append];simp [h]
theorem ON {l:Lw} {K:List Lw} {k:Nat} (hk:k<K.length) (h:K[k] =l):Hb l K (k+1)=Hb l K k:=by
 unfold Hb;rw [List.take_succ_eq_append_getElem hk,List.filter_append];simp [h]
theorem PP (l:Lw) (K:List Lw) (k:Nat):(Hb l K k).length≤K.length:=by
 unfold Hb;exact Nat.le_trans (List.length_filter_le _ _) (by rw [List.length_take];omega)
set_option maxHeartbeats 4000000 in
theorem L7 (w:Ws) (hw:Ba w) (hK:w.K.length≤1000000) (l:Lw):B4 Try.prog 36 [.d (LH w),.d (Nf l)] (.tup [LH (unlW w l).1,Bt (unlW w l).2]):=by
 have hfew:=hw.few;refine DY Try.func36 Z Z Try.ntmps36 Z Z Z fun F hF=>(AG ?_);refine AI (U (Iz 20 Z Z Z Z Z Z Z) (U (Iz 21 Z Z Z Z Z Z Z) (U (IF 22 ES Z Z Z Z) (AD Z Z (AF (AG (AG (AI ?_))))))))
 first | refine J (BW Z Z AP rfl) ?_ | refine J (BX Z Z AP Z Z Z) ?_ | refine J (BY Z Z (rfl) rfl AP rfl) ?_
 first | refine J (BW Z Z As rfl) ?_ | refine J (BX Z Z As Z Z Z) ?_ | refine J (BY Z Z (rfl) rfl As rfl) ?_
 refine J (DW (NJ w l (by omega)) Z Z) ?_
 first | refine J (El Z Z) ?_ | refine J (Ek Z Z) ?_
 refine AF ?_
 first | refine BG rfl (fun h13=>?_) (fun h13=>?_) | refine BB rfl (fun h13=>?_) (fun h13=>?_)
 ·refine AG (AI ?_)
  first | refine J (BW Z Z AP rfl) ?_ | refine J (BX Z Z AP Z Z Z) ?_ | refine J (BY Z Z (rfl) rfl AP rfl) ?_
  refine U (Bu Z Z Z Z Z Z Z Bh) (AD Z Z (AF (Ay ?_)));exact ⟨_,[],[],Av rfl,rfl,rfl,by rw [unl9 h13],rfl⟩
 ·refine An (AG ?_);have hlK:l∈w.K:=Classical.not_not.1 h13;have h0:=unl0 hlK;refine AI ?_
  first | refine J (A2 rfl Ag Z Z Z) ?_ | refine J (A4 rfl Ag Z Z Z) ?_ | refine J (A5 rfl Ag Z Z Z) ?_ | refine J (A3 rfl Ag Z Z Z) ?_ | refine J (A1 rfl Ag Z Z Z) ?_
  first | refine J (AY Z Z AR rfl) ?_ | refine J (AW Z Z Z AR rfl) ?_ | refine J (AX Z Z (rfl) rfl AR rfl) ?_
  refine J (M8 ES Lb Z Z Z) (U (IF 32 ES Z Z Z Z) (U (Bu Z Z Z Z Z Z Z Bh) ?_));refine AF (AG (AG (AI (AD Z Z (AF (B9 (DU 32 0 1 33 Em Z Z Z Z Z Z Z (Fm (α:=Nat×List Lw) (fun q=>⟨51,[(2,(.ptr 20 0 0)),(3,(.ptr 21 0 0)),(4,(.ptr 22 0 0)),(6,(.ptr 32 0 0)),(7,(.d (natD q.1)))],[It 20 w,(21,[.blk 71 [.d (AU l.f),.d (Bt l.t),.d (AU l.r)]]),(22,[.blk 35 [.d (.sl (some true) []),.d (.sl (some true) [])]]),(32,[.blk 35 [.d (stsD w.R),.own 33 0 q.2.length]]),(33,[.rowD 71 3 (q.2.map Nf)])]⟩) (fun q=>q.1≤w.K.length∧q.2=Hb l w.K q.1) (fun q=>w.K.length - q.1) ((0,[])) (⟨Nat.zero_le _,rfl⟩) (BK hF [20,21,22,32,33] Z Z ⟨rfl,rfl,rfl,rfl,rfl,trivial⟩) ?_))))))));rintro ⟨k,acc⟩ ⟨hk,hacc⟩;dsimp only at hk hacc⊢;refine AG (AG (AI (AC Z Z ?_)))
  first | refine J (A2 rfl Ah Z Z Z) ?_ | refine J (A4 rfl Ah Z Z Z) ?_ | refine J (A5 rfl Ah Z Z Z) ?_ | refine J (A3 rfl Ah Z Z Z) ?_ | refine J (A1 rfl Ah Z Z Z) ?_
  first | refine J (AY Z Z Aw rfl) ?_ | refine J (AW Z Z Z Aw rfl) ?_ | refine J (AX Z Z (rfl) rfl Aw rfl) ?_
  refine J (CG rfl (List.length_map ..) Try.underlying33 rfl) ?_
  first | refine J (Eo Z Z Z) ?_ | refine J (Ep Z Z Z) ?_
  refine AF ?_
  first | refine BG rfl (fun h22=>?_) (fun h22=>?_) | refine BB rfl (fun h22=>?_) (fun h22=>?_)
  ·refine An (AG (B9 (AG ?_)));have hkl:k<w.K.length:=H9 h22;have hal:acc.length≤w.K.length:=by rw [hacc];exact PP _ _ _
   refine Fh [[],[0],[],[0,1,2],[0,1,2,3],[],[0,1,2,3,4,5]] mixed rfl (EK ?_)
   first | refine AE [2] [] Z Z (fun _=>AB (A2 rfl Ah Z Z Z)) ?_ | refine AH [2] Z Z (fun _=>AB (A2 rfl Ah Z Z Z)) ?_ | refine AE [2] [] Z Z (fun _=>AB (A4 rfl Ah Z Z Z)) ?_ | refine AH [2] Z Z (fun _=>AB (A4 rfl Ah Z Z Z)) ?_ | refine AE [2] [] Z Z (fun _=>AB (A5 rfl Ah Z Z Z)) ?_ | refine AH [2] Z Z (fun _=>AB (A5 rfl Ah Z Z Z)) ?_ | refine AE [2] [] Z Z (fun _=>AB (A3 rfl Ah Z Z Z)) ?_ | refine AH [2] Z Z (fun _=>AB (A3 rfl Ah Z Z Z)) ?_ | refine AE [2] [] Z Z (fun _=>AB (A1 rfl Ah Z Z Z)) ?_ | refine AH [2] Z Z (fun _=>AB (A1 rfl Ah Z Z Z)) ?_
   first | refine AE [25] [20] Z Z (fun _=>AB (AY Z Z Aw rfl)) ?_ | refine AE [25] [20] Z Z (fun _=>AB (AW Z Z Z Aw rfl)) ?_ | refine AE [25] [20] Z Z (fun _=>AB (AX Z Z (rfl) rfl Aw rfl)) ?_
   first | refine AE [7] [] Z Z (fun _=>AB (Aa Z Z)) ?_ | refine AH [7] Z Z (fun _=>AB (Aa Z Z)) ?_
   first | refine AE [26,27] [] Z Z (fun _=>AB (BM (k) Z Z (rfl) (DG hkl) Try.underlying33 rfl C3 rfl)) ?_ | refine AH [26,27] Z Z (fun _=>AB (BM (k) Z Z (rfl) (DG hkl) Try.underlying33 rfl C3 rfl)) ?_ | refine AE [26,27] [] Z Z (fun _=>AB (BN (k) Z Z (rfl) (DG hkl) rfl Try.underlying33 C3 rfl)) ?_ | refine AH [26,27] Z Z (fun _=>AB (BN (k) Z Z (rfl) (DG hkl) rfl Try.underlying33 C3 rfl)) ?_
   first | refine AE [28] [] Z Z (fun _=>AB (BW Z Z As rfl)) ?_ | refine AH [28] Z Z (fun _=>AB (BW Z Z As rfl)) ?_ | refine AE [28] [] Z Z (fun _=>AB (BX Z Z As Z Z Z)) ?_ | refine AH [28] Z Z (fun _=>AB (BX Z Z As Z Z Z)) ?_ | refine AE [28] [] Z Z (fun _=>AB (BY Z Z (rfl) rfl As rfl)) ?_ | refine AH [28] Z Z (fun _=>AB (BY Z Z (rfl) rfl As rfl)) ?_
   first | refine AE [3] [21] Z Z (fun _=>AB (BW Z Z As rfl)) ?_ | refine AE [3] [21] Z Z (fun _=>AB (BX Z Z As Z Z Z)) ?_ | refine AE [3] [21] Z Z (fun _=>AB (BY Z Z (rfl) rfl As rfl)) ?_
   refine EL 6 Z Z Z (B6 7 Z Z (J (PF (la:=lwC w.K[k]) (lb:=lwC l) (ds:=lwT) (by kernel_rfl) (by kernel_rfl) (by kernel_rfl) Z Z Z Z (Gc _) (Gc _) (lw_neC _ _) rfl) (AF ⟨rfl,?_⟩)));refine Es ?_
   first | refine BG rfl (fun h31=>?_) (fun h31=>?_) | refine BB rfl (fun h31=>?_) (fun h31=>?_)
   ·refine Fh [[],[0],[],[2],[],[2,3,4],[2,3,4,5],[2,3,4,5,6],[0,1,2,3,4,5,6,7],[0,1,2,3,4,5,6,7,8],[0,1,2,3,4,5,6,7,8,9]] mixed rfl (EK ?_)
    first | refine AE [6] [] Z Z (fun _=>AB (A2 rfl Ah Z Z Z)) ?_ | refine AH [6] Z Z (fun _=>AB (A2 rfl Ah Z Z Z)) ?_ | refine AE [6] [] Z Z (fun _=>AB (A4 rfl Ah Z Z Z)) ?_ | refine AH [6] Z Z (fun _=>AB (A4 rfl Ah Z Z Z)) ?_ | refine AE [6] [] Z Z (fun _=>AB (A5 rfl Ah Z Z Z)) ?_ | refine AH [6] Z Z (fun _=>AB (A5 rfl Ah Z Z Z)) ?_ | refine AE [6] [] Z Z (fun _=>AB (A3 rfl Ah Z Z Z)) ?_ | refine AH [6] Z Z (fun _=>AB (A3 rfl Ah Z Z Z)) ?_ | refine AE [6] [] Z Z (fun _=>AB (A1 rfl Ah Z Z Z)) ?_ | refine AH [6] Z Z (fun _=>AB (A1 rfl Ah Z Z Z)) ?_
    first | refine AE [32] [32] Z Z (fun _=>AB (AY Z Z Aw rfl)) ?_ | refine AE [32] [32] Z Z (fun _=>AB (AW Z Z Z Aw rfl)) ?_ | refine AE [32] [32] Z Z (fun _=>AB (AX Z Z (rfl) rfl Aw rfl)) ?_
    first | refine AE [2] [] Z Z (fun _=>AB (A2 rfl Ah Z Z Z)) ?_ | refine AH [2] Z Z (fun _=>AB (A2 rfl Ah Z Z Z)) ?_ | refine AE [2] [] Z Z (fun _=>AB (A4 rfl Ah Z Z Z)) ?_ | refine AH [2] Z Z (fun _=>AB (A4 rfl Ah Z Z Z)) ?_ | refine AE [2] [] Z Z (fun _=>AB (A5 rfl Ah Z Z Z)) ?_ | refine AH [2] Z Z (fun _=>AB (A5 rfl Ah Z Z Z)) ?_ | refine AE [2] [] Z Z (fun _=>AB (A3 rfl Ah Z Z Z)) ?_ | refine AH [2] Z Z (fun _=>AB (A3 rfl Ah Z Z Z)) ?_ | refine AE [2] [] Z Z (fun _=>AB (A1 rfl Ah Z Z Z)) ?_ | refine AH [2] Z Z (fun _=>AB (A1 rfl Ah Z Z Z)) ?_
    first | refine AE [34] [20] Z Z (fun _=>AB (AY Z Z Aw rfl)) ?_ | refine AE [34] [20] Z Z (fun _=>AB (AW Z Z Z Aw rfl)) ?_ | refine AE [34] [20] Z Z (fun _=>AB (AX Z Z (rfl) rfl Aw rfl)) ?_
    first | refine AE [7] [] Z Z (fun _=>AB (Aa Z Z)) ?_ | refine AH [7] Z Z (fun _=>AB (Aa Z Z)) ?_
    first | refine AE [35,36] [] Z Z (fun _=>AB (BM (k) Z Z (rfl) (DG hkl) Try.underlying33 rfl C3 rfl)) ?_ | refine AH [35,36] Z Z (fun _=>AB (BM (k) Z Z (rfl) (DG hkl) Try.underlying33 rfl C3 rfl)) ?_ | refine AE [35,36] [] Z Z (fun _=>AB (BN (k) Z Z (rfl) (DG hkl) rfl Try.underlying33 C3 rfl)) ?_ | refine AH [35,36] Z Z (fun _=>AB (BN (k) Z Z (rfl) (DG hkl) rfl Try.underlying33 C3 rfl)) ?_
    first | refine AE [37] [] Z Z (fun _=>AB (BW Z Z As rfl)) ?_ | refine AH [37] Z Z (fun _=>AB (BW Z Z As rfl)) ?_ | refine AE [37] [] Z Z (fun _=>AB (BX Z Z As Z Z Z)) ?_ | refine AH [37] Z Z (fun _=>AB (BX Z Z As Z Z Z)) ?_ | refine AE [37] [] Z Z (fun _=>AB (BY Z Z (rfl) rfl As rfl)) ?_ | refine AH [37] Z Z (fun _=>AB (BY Z Z (rfl) rfl As rfl)) ?_
    refine Bs [38] [34] [(39,_)] Z Z (fun _=>Hl (Gl 34 Em Z Z Z Z Z Z Z Z)) (.inr ⟨39,_,rfl,rfl,rfl,rfl,rfl⟩) Z Z Z Z Z (EL 8 Z Z Z (B6 9 Z Z ?_))
    first | refine U (JE (acc) ([w.K[k]]) Z Z Z Z Z Z Z Z Em (by simp only [List.length_singleton];omega) Z Z Z Z) ?_ | refine U (KM (acc) ([w.K[k]]) Z Z Z Z Z Z (fun _=>rfl) Em (by simp only [List.length_singleton];omega) Z Z Z Z) ?_
    refine AF ⟨rfl,?_⟩;refine B6 10 Z Z ?_
    first | refine J (A2 rfl Ah Z Z Z) ?_ | refine J (A4 rfl Ah Z Z Z) ?_ | refine J (A5 rfl Ah Z Z Z) ?_ | refine J (A3 rfl Ah Z Z Z) ?_ | refine J (A1 rfl Ah Z Z Z) ?_
    refine AF ⟨rfl,?_⟩;refine B6 11 Z Z (U (Bu Z Z Z Z Z Z Z sz33) (AF ⟨rfl,?_⟩));refine Es (AI (AC Z Z (J (DA Z Z (IntWalk.i64_in _ (by omega)) rfl) (AD Z Z (AF ?_)))));exact ⟨(k+1,acc++ [w.K[k]]),⟨hkl,by show _=Hb l w.K (k+1);rw [PQ hkl h31,hacc]⟩,by show w.K.length - (k+1)<w.K.length - k;omega,BK hF [20,21,22,32,33] rfl (rfl) ⟨rfl,rfl,rfl,rfl,rfl,trivial⟩⟩
   ·refine An (AI (AC Z Z (J (DA Z Z (IntWalk.i64_in _ (by omega)) rfl) (AD Z Z (AF ?_)))));exact ⟨(k+1,acc),⟨hkl,by show _=Hb l w.K (k+1);rw [ON hkl (Classical.not_not.1 h31),hacc]⟩,by show w.K.length - (k+1)<w.K.length - k;omega,BK hF [20,21,22,32,33] rfl (rfl) ⟨rfl,rfl,rfl,rfl,rfl,trivial⟩⟩
  ·refine Eg (AG (AG ?_));have hke:k=w.K.length:=by have:=h22;omega
   have hac:acc=(CP w l).K:=by rw [hacc,hke];unfold Hb CP;rw [List.take_length]
   refine CM (ys:=acc.map Nf) 32 0 1 33 Z Z Z (Nat.le_of_eq (by rw [List.length_map])) (List.take_of_length_le (by rw [List.length_map];exact Nat.le_refl _)) Z Z Z Z Z Z ?_;rw [hac];refine AI ?_
   first | refine J (BW Z Z AP rfl) ?_ | refine J (BX Z Z AP Z Z Z) ?_ | refine J (BY Z Z (rfl) rfl AP rfl) ?_
   refine J (DW (CR (CP w l) (hw.sans l) (Nat.le_trans (List.length_filter_le _ _) (by omega))) Z Z) (AC Z Z ?_)
   first | refine J (Bo Z Z Z) ?_ | refine J (Bn Z Z Z) ?_
   first | refine J (Bo Z Z Z) ?_ | refine J (Bn Z Z Z) ?_
   refine AD Z Z (AD Z Z (AF (AG (AI (AC Z Z ?_)))))
   first | refine J (El Z Z) ?_ | refine J (Ek Z Z) ?_
   refine AF ?_
   first | refine BG rfl (fun h48=>?_) (fun h48=>?_) | refine BB rfl (fun h48=>?_) (fun h48=>?_)
   ·refine AG (AI ?_)
    first | refine J (BW Z Z AP rfl) ?_ | refine J (BX Z Z AP Z Z Z) ?_ | refine J (BY Z Z (rfl) rfl AP rfl) ?_
    refine U (Bu Z Z Z Z Z Z Z Bh) (AD Z Z (AF (Ay ?_)));have hc:acyW (CP w l)=false:=by simpa using h48
    exact ⟨_,[],[],Av rfl,rfl,rfl,by rw [h0,hc];rfl,rfl⟩
   ·refine An (AG (AI ?_))
    first | refine J (BW Z Z AP rfl) ?_ | refine J (BX Z Z AP Z Z Z) ?_ | refine J (BY Z Z (rfl) rfl AP rfl) ?_
    refine U (Bu Z Z Z Z Z Z Z Bh) (AD Z Z (AF (Ay ?_)));have hc:acyW (CP w l)=true:=by simpa using h48
    exact ⟨_,[],[],Av rfl,rfl,rfl,by rw [h0,if_pos hc];rfl,rfl⟩
def Hi (x:St) (R:List St) (k:Nat):List St:=(R.take k).filter fun y=>!decide (y=x)
theorem Q6 {x:St} {R:List St} {k:Nat} (hk:k<R.length) (h:¬R[k] =x):Hi x R (k+1)=Hi x R k++ [R[k]]:=by
 unfold Hi;rw [List.take_succ_eq_append_getElem hk,List.filter_append];simp [h]
theorem Oe {x:St} {R:List St} {k:Nat} (hk:k<R.length) (h:R[k] =x):Hi x R (k+1)=Hi x R k:=by
 unfold Hi;rw [List.take_succ_eq_append_getElem hk,List.filter_append];simp [h]
theorem Q5 (x:St) (R:List St) (k:Nat):(Hi x R k).length≤R.length:=by
 unfold Hi;exact Nat.le_trans (List.length_filter_le _ _) (by rw [List.length_take];omega)
def HK (x:St) (K:List Lw) (k:Nat):List Lw:=(K.take k).filter fun l=>!decide (l.f=x) && !decide (l.r=x)
theorem Q8 {x:St} {K:List Lw} {k:Nat} (hk:k<K.length) (h1:¬K[k].f=x) (h2:¬K[k].r=x):HK x K (k+1)=HK x K k++ [K[k]]:=by
 unfold HK;rw [List.take_succ_eq_append_getElem hk,List.filter_append];simp [h1,h2]
theorem KB {x:St} {K:List Lw} {k:Nat} (hk:k<K.length) (h:K[k].f=x∨K[k].r=x):HK x K (k+1)=HK x K k:=by
 unfold HK;rw [List.take_succ_eq_append_getElem hk,List.filter_append];rcases h with h | h<;>simp [h]
theorem Q7 (x:St) (K:List Lw) (k:Nat):(HK x K k).length≤K.length:=by
 unfold HK;exact Nat.le_trans (List.length_filter_le _ _) (by rw [List.length_take];omega)
set_option maxHeartbeats 4000000 in
theorem L8 (w:Ws) (hw:Ba w) (hK:w.K.length≤1000000) (x:St):B4 Try.prog 27 [.d (LH w),.d (AU x)] (.tup [LH (remW w x).1,Bt (remW w x).2]):=by
 have hfew:=hw.few;refine DY Try.func27 Z Z Try.ntmps27 Z Z Z fun F hF=>?_;refine AG (AI (U (Iz 20 Z Z Z Z Z Z Z) (U (IF 21 ES Z Z Z Z) (AD Z Z (AF (AG (AG (AI ?_))))))))
 first | refine J (A2 rfl Ag Z Z Z) ?_ | refine J (A4 rfl Ag Z Z Z) ?_ | refine J (A5 rfl Ag Z Z Z) ?_ | refine J (A3 rfl Ag Z Z Z) ?_ | refine J (A1 rfl Ag Z Z Z) ?_
 first | refine J (AY Z Z AR rfl) ?_ | refine J (AW Z Z Z AR rfl) ?_ | refine J (AX Z Z (rfl) rfl AR rfl) ?_
 refine AC Z Z (J (DW (Bj w.R x (by omega)) Z Z) ?_)
 first | refine J (El Z Z) ?_ | refine J (Ek Z Z) ?_
 refine AF ?_
 first | refine BG rfl (fun h15=>?_) (fun h15=>?_) | refine BB rfl (fun h15=>?_) (fun h15=>?_)
 ·refine AG (AI ?_)
  first | refine J (BW Z Z AP rfl) ?_ | refine J (BX Z Z AP Z Z Z) ?_ | refine J (BY Z Z (rfl) rfl AP rfl) ?_
  refine U (Bu Z Z Z Z Z Z Z Bh) (AD Z Z (AF (Ay ?_)));exact ⟨_,[],[],Av rfl,rfl,rfl,by rw [rem9 h15],rfl⟩
 ·refine An (AG ?_);have hxR:x∈w.R:=Classical.not_not.1 h15;have h0:=rem0 hxR;refine AI (J (M8 ES Lb Z Z Z) (U (IF 32 ES Z Z Z Z) (U (Bu Z Z Z Z Z Z Z Bh) ?_)));refine AF (AG (AG (AI (AD Z Z (AF (B9 (DU 32 0 0 33 Bd Z Z Z Z Z Z Z (Fm (α:=Nat×List St) (fun q=>⟨86,[(1,.d (AU x)),(2,(.ptr 20 0 0)),(4,(.ptr 21 0 0)),(6,(.ptr 32 0 0)),(7,(.d (natD q.1)))],[It 20 w,(21,[.blk 35 [.d (.sl (some true) []),.d (.sl (some true) [])]]),(32,[.blk 35 [.own 33 0 q.2.length,.d (.sl (some true) [])]]),(33,[.rowD 9 1 (q.2.map AU)])]⟩) (fun q=>q.1≤w.R.length∧q.2=Hi x w.R q.1) (fun q=>w.R.length - q.1) ((0,[])) (⟨Nat.zero_le _,rfl⟩) (BK hF [20,21,32,33] Z Z ⟨rfl,rfl,rfl,rfl,rfl,trivial⟩) ?_))))))));rintro ⟨k,acc⟩ ⟨hk,hacc⟩;dsimp only at hk hacc⊢;refine AG (AG (AI (AC Z Z ?_)))
  first | refine J (A2 rfl Ag Z Z Z) ?_ | refine J (A4 rfl Ag Z Z Z) ?_ | refine J (A5 rfl Ag Z Z Z) ?_ | refine J (A3 rfl Ag Z Z Z) ?_ | refine J (A1 rfl Ag Z Z Z) ?_
  first | refine J (AY Z Z AR rfl) ?_ | refine J (AW Z Z Z AR rfl) ?_ | refine J (AX Z Z (rfl) rfl AR rfl) ?_
  refine J (CG rfl (List.length_map ..) Try.underlying32 rfl) ?_
  first | refine J (Eo Z Z Z) ?_ | refine J (Ep Z Z Z) ?_
  refine AF ?_
  first | refine BG rfl (fun h22=>?_) (fun h22=>?_) | refine BB rfl (fun h22=>?_) (fun h22=>?_)
  ·refine An (AG (B9 (AG ?_)));have hkl:k<w.R.length:=H9 h22;have hal:acc.length≤w.R.length:=by rw [hacc];exact Q5 _ _ _
   refine AI ?_
   first | refine J (A2 rfl Ag Z Z Z) ?_ | refine J (A4 rfl Ag Z Z Z) ?_ | refine J (A5 rfl Ag Z Z Z) ?_ | refine J (A3 rfl Ag Z Z Z) ?_ | refine J (A1 rfl Ag Z Z Z) ?_
   first | refine J (AY Z Z AR rfl) ?_ | refine J (AW Z Z Z AR rfl) ?_ | refine J (AX Z Z (rfl) rfl AR rfl) ?_
   refine AC Z Z ?_
   first | refine J (BM (k) Z Z (rfl) (Dh hkl) Try.underlying32 rfl ER rfl) ?_ | refine J (BN (k) Z Z (rfl) (Dh hkl) rfl Try.underlying32 ER rfl) ?_
   first | refine J (AY Z Z AZ rfl) ?_ | refine J (AW Z Z Z AZ rfl) ?_ | refine J (AX Z Z (rfl) rfl AZ rfl) ?_
   refine AC Z Z ?_
   first | refine J (IH Z Z Z) ?_ | refine J (IG Z Z Z) ?_ | refine J (Hm Z Z Z) ?_ | refine J (IB Try.underlying9 Z Z Z) ?_ | refine J (ID Try.underlying9 Z Z Z) ?_ | refine J (st_neqN Try.underlying9 Z Z) ?_ | refine J (st_neqPr Try.underlying9 Z Z) ?_ | refine J (st_neqMz Try.underlying9 Z Z) ?_ | refine J (IC Try.underlying9 Z Z Z) ?_ | refine J (st_neqFN Try.underlying9 Z Z) ?_
   refine AF ?_
   first | refine BG rfl (fun h31=>?_) (fun h31=>?_) | refine BB rfl (fun h31=>?_) (fun h31=>?_)
   ·refine Fh [[],[0],[],[2],[],[2,3,4],[2,3,4,5],[2,3,4,5,6],[0,1,2,3,4,5,6,7],[0,1,2,3,4,5,6,7,8],[0,1,2,3,4,5,6,7,8,9]] mixed rfl (EK ?_)
    first | refine AE [6] [] Z Z (fun _=>AB (A2 rfl Ag Z Z Z)) ?_ | refine AH [6] Z Z (fun _=>AB (A2 rfl Ag Z Z Z)) ?_ | refine AE [6] [] Z Z (fun _=>AB (A4 rfl Ag Z Z Z)) ?_ | refine AH [6] Z Z (fun _=>AB (A4 rfl Ag Z Z Z)) ?_ | refine AE [6] [] Z Z (fun _=>AB (A5 rfl Ag Z Z Z)) ?_ | refine AH [6] Z Z (fun _=>AB (A5 rfl Ag Z Z Z)) ?_ | refine AE [6] [] Z Z (fun _=>AB (A3 rfl Ag Z Z Z)) ?_ | refine AH [6] Z Z (fun _=>AB (A3 rfl Ag Z Z Z)) ?_ | refine AE [6] [] Z Z (fun _=>AB (A1 rfl Ag Z Z Z)) ?_ | refine AH [6] Z Z (fun _=>AB (A1 rfl Ag Z Z Z)) ?_
    first | refine AE [32] [32] Z Z (fun _=>AB (AY Z Z AR rfl)) ?_ | refine AE [32] [32] Z Z (fun _=>AB (AW Z Z Z AR rfl)) ?_ | refine AE [32] [32] Z Z (fun _=>AB (AX Z Z (rfl) rfl AR rfl)) ?_
    first | refine AE [2] [] Z Z (fun _=>AB (A2 rfl Ag Z Z Z)) ?_ | refine AH [2] Z Z (fun _=>AB (A2 rfl Ag Z Z Z)) ?_ | refine AE [2] [] Z Z (fun _=>AB (A4 rfl Ag Z Z Z)) ?_ | refine AH [2] Z Z (fun _=>AB (A4 rfl Ag Z Z Z)) ?_ | refine AE [2] [] Z Z (fun _=>AB (A5 rfl Ag Z Z Z)) ?_ | refine AH [2] Z Z (fun _=>AB (A5 rfl Ag Z Z Z)) ?_ | refine AE [2] [] Z Z (fun _=>AB (A3 rfl Ag Z Z Z)) ?_ | refine AH [2] Z Z (fun _=>AB (A3 rfl Ag Z Z Z)) ?_ | refine AE [2] [] Z Z (fun _=>AB (A1 rfl Ag Z Z Z)) ?_ | refine AH [2] Z Z (fun _=>AB (A1 rfl Ag Z Z Z)) ?_
    first | refine AE [34] [20] Z Z (fun _=>AB (AY Z Z AR rfl)) ?_ | refine AE [34] [20] Z Z (fun _=>AB (AW Z Z Z AR rfl)) ?_ | refine AE [34] [20] Z Z (fun _=>AB (AX Z Z (rfl) rfl AR rfl)) ?_
    first | refine AE [7] [] Z Z (fun _=>AB (Aa Z Z)) ?_ | refine AH [7] Z Z (fun _=>AB (Aa Z Z)) ?_
    first | refine AE [35,36] [] Z Z (fun _=>AB (BM (k) Z Z (rfl) (Dh hkl) Try.underlying32 rfl ER rfl)) ?_ | refine AH [35,36] Z Z (fun _=>AB (BM (k) Z Z (rfl) (Dh hkl) Try.underlying32 rfl ER rfl)) ?_ | refine AE [35,36] [] Z Z (fun _=>AB (BN (k) Z Z (rfl) (Dh hkl) rfl Try.underlying32 ER rfl)) ?_ | refine AH [35,36] Z Z (fun _=>AB (BN (k) Z Z (rfl) (Dh hkl) rfl Try.underlying32 ER rfl)) ?_
    first | refine AE [37] [] Z Z (fun _=>AB (AY Z Z AZ rfl)) ?_ | refine AH [37] Z Z (fun _=>AB (AY Z Z AZ rfl)) ?_ | refine AE [37] [] Z Z (fun _=>AB (AW Z Z Z AZ rfl)) ?_ | refine AH [37] Z Z (fun _=>AB (AW Z Z Z AZ rfl)) ?_ | refine AE [37] [] Z Z (fun _=>AB (AX Z Z (rfl) rfl AZ rfl)) ?_ | refine AH [37] Z Z (fun _=>AB (AX Z Z (rfl) rfl AZ rfl)) ?_
    refine Bs [38] [34] [(39,_)] Z Z (fun _=>Hl (Gl 34 Bd Z Z Z Z Z Z Z Z)) (.inr ⟨39,_,rfl,rfl,rfl,rfl,rfl⟩) Z Z Z Z Z (EL 8 Z Z Z (B6 9 Z Z ?_))
    first | refine U (JE (acc) ([w.R[k]]) Z Z Z Z Z Z Z Z Bd (by simp only [List.length_singleton];omega) Z Z Z Z) ?_ | refine U (KM (acc) ([w.R[k]]) Z Z Z Z Z Z (fun _=>rfl) Bd (by simp only [List.length_singleton];omega) Z Z Z Z) ?_
    refine AF ⟨rfl,?_⟩;refine B6 10 Z Z ?_
    first | refine J (A2 rfl Ag Z Z Z) ?_ | refine J (A4 rfl Ag Z Z Z) ?_ | refine J (A5 rfl Ag Z Z Z) ?_ | refine J (A3 rfl Ag Z Z Z) ?_ | refine J (A1 rfl Ag Z Z Z) ?_
    refine AF ⟨rfl,?_⟩;refine B6 11 Z Z (U (Bu Z Z Z Z Z Z Z CD) (AF ⟨rfl,?_⟩));refine Es (AI (AC Z Z (J (DA Z Z (IntWalk.i64_in _ (by omega)) rfl) (AD Z Z (AF ?_)))));exact ⟨(k+1,acc++ [w.R[k]]),⟨hkl,by show _=Hi x w.R (k+1);rw [Q6 hkl h31,hacc]⟩,by show w.R.length - (k+1)<w.R.length - k;omega,BK hF [20,21,32,33] rfl (rfl) ⟨rfl,rfl,rfl,rfl,rfl,trivial⟩⟩
   ·refine An (AI (AC Z Z (J (DA Z Z (IntWalk.i64_in _ (by omega)) rfl) (AD Z Z (AF ?_)))));exact ⟨(k+1,acc),⟨hkl,by show _=Hi x w.R (k+1);rw [Oe hkl (Classical.not_not.1 h31),hacc]⟩,by show w.R.length - (k+1)<w.R.length - k;omega,BK hF [20,21,32,33] rfl (rfl) ⟨rfl,rfl,rfl,rfl,rfl,trivial⟩⟩
  ·refine Eg (AG (AG ?_));have hke:k=w.R.length:=by have:=h22;omega
   have hac:acc=(Ed w x).R:=by rw [hacc,hke];unfold Hi Ed;rw [List.take_length]
   refine CM (ys:=acc.map AU) 32 0 0 33 Z Z Z (Nat.le_of_eq (by rw [List.length_map])) (List.take_of_length_le (by rw [List.length_map];exact Nat.le_refl _)) Z Z Z Z Z Z ?_;rw [hac];refine AI (AD Z Z (AF (B9 (DU 32 0 1 35 Em Z Z Z Z Z Z Z (Fm (α:=Nat×List Lw) (fun q=>⟨86,[(1,.d (AU x)),(2,(.ptr 20 0 0)),(4,(.ptr 21 0 0)),(6,(.ptr 32 0 0)),(8,(.d (natD q.1)))],[It 20 w,(21,[.blk 35 [.d (.sl (some true) []),.d (.sl (some true) [])]]),(32,[.blk 35 [.d (stsD (Ed w x).R),.own 35 0 q.2.length]]),(35,[.rowD 71 3 (q.2.map Nf)])]⟩) (fun q=>q.1≤w.K.length∧q.2=HK x w.K q.1) (fun q=>w.K.length - q.1) ((0,[])) (⟨Nat.zero_le _,rfl⟩) (BK hF [20,21,32,35] Z Z ⟨rfl,rfl,rfl,rfl,rfl,trivial⟩) ?_)))));rintro ⟨k,acc⟩ ⟨hk,hacc⟩;dsimp only at hk hacc⊢;refine AG (AG (AI (AC Z Z ?_)))
   first | refine J (A2 rfl Ah Z Z Z) ?_ | refine J (A4 rfl Ah Z Z Z) ?_ | refine J (A5 rfl Ah Z Z Z) ?_ | refine J (A3 rfl Ah Z Z Z) ?_ | refine J (A1 rfl Ah Z Z Z) ?_
   first | refine J (AY Z Z Aw rfl) ?_ | refine J (AW Z Z Z Aw rfl) ?_ | refine J (AX Z Z (rfl) rfl Aw rfl) ?_
   refine J (CG rfl (List.length_map ..) Try.underlying33 rfl) ?_
   first | refine J (Eo Z Z Z) ?_ | refine J (Ep Z Z Z) ?_
   refine AF ?_
   first | refine BG rfl (fun h46=>?_) (fun h46=>?_) | refine BB rfl (fun h46=>?_) (fun h46=>?_)
   ·refine An (AG (B9 (AG ?_)));have hkl:k<w.K.length:=H9 h46;have hal:acc.length≤w.K.length:=by rw [hacc];exact Q7 _ _ _
    refine AI ?_
    first | refine J (A2 rfl Ah Z Z Z) ?_ | refine J (A4 rfl Ah Z Z Z) ?_ | refine J (A5 rfl Ah Z Z Z) ?_ | refine J (A3 rfl Ah Z Z Z) ?_ | refine J (A1 rfl Ah Z Z Z) ?_
    first | refine J (AY Z Z Aw rfl) ?_ | refine J (AW Z Z Z Aw rfl) ?_ | refine J (AX Z Z (rfl) rfl Aw rfl) ?_
    refine AC Z Z ?_
    first | refine J (BM (k) Z Z (rfl) (DG hkl) Try.underlying33 rfl C3 rfl) ?_ | refine J (BN (k) Z Z (rfl) (DG hkl) rfl Try.underlying33 C3 rfl) ?_
    first | refine J (A2 rfl CC Z Z Z) ?_ | refine J (A4 rfl CC Z Z Z) ?_ | refine J (A5 rfl CC Z Z Z) ?_ | refine J (A3 rfl CC Z Z Z) ?_ | refine J (A1 rfl CC Z Z Z) ?_
    first | refine J (AY Z Z AZ rfl) ?_ | refine J (AW Z Z Z AZ rfl) ?_ | refine J (AX Z Z (rfl) rfl AZ rfl) ?_
    refine AC Z Z ?_
    first | refine J (IH Z Z Z) ?_ | refine J (IG Z Z Z) ?_ | refine J (Hm Z Z Z) ?_ | refine J (IB Try.underlying9 Z Z Z) ?_ | refine J (ID Try.underlying9 Z Z Z) ?_ | refine J (st_neqN Try.underlying9 Z Z) ?_ | refine J (st_neqPr Try.underlying9 Z Z) ?_ | refine J (st_neqMz Try.underlying9 Z Z) ?_ | refine J (IC Try.underlying9 Z Z Z) ?_ | refine J (st_neqFN Try.underlying9 Z Z) ?_
    refine AC Z Z ?_
    first | refine KL 57 rfl (fun h57=>?_) (fun h57=>?_) | refine JH 57 rfl (fun h57=>?_) (fun h57=>?_)
    ·refine Ab Z Z Z ?_
     first | refine J (A2 rfl Ah Z Z Z) ?_ | refine J (A4 rfl Ah Z Z Z) ?_ | refine J (A5 rfl Ah Z Z Z) ?_ | refine J (A3 rfl Ah Z Z Z) ?_ | refine J (A1 rfl Ah Z Z Z) ?_
     refine Ab Z Z Z ?_
     first | refine J (AY Z Z Aw rfl) ?_ | refine J (AW Z Z Z Aw rfl) ?_ | refine J (AX Z Z (rfl) rfl Aw rfl) ?_
     refine Ab Z Z Z (AC Z Z (Ab Z Z Z ?_))
     first | refine J (BM (k) Z Z (rfl) (DG hkl) Try.underlying33 rfl C3 rfl) ?_ | refine J (BN (k) Z Z (rfl) (DG hkl) rfl Try.underlying33 C3 rfl) ?_
     refine Ab Z Z Z ?_
     first | refine J (A2 rfl Cd Z Z Z) ?_ | refine J (A4 rfl Cd Z Z Z) ?_ | refine J (A5 rfl Cd Z Z Z) ?_ | refine J (A3 rfl Cd Z Z Z) ?_ | refine J (A1 rfl Cd Z Z Z) ?_
     refine Ab Z Z Z ?_
     first | refine J (AY Z Z AZ rfl) ?_ | refine J (AW Z Z Z AZ rfl) ?_ | refine J (AX Z Z (rfl) rfl AZ rfl) ?_
     refine Ab Z Z Z (AC Z Z (Ab Z Z Z ?_))
     first | refine J (IH Z Z Z) ?_ | refine J (IG Z Z Z) ?_ | refine J (Hm Z Z Z) ?_ | refine J (IB Try.underlying9 Z Z Z) ?_ | refine J (ID Try.underlying9 Z Z Z) ?_ | refine J (st_neqN Try.underlying9 Z Z) ?_ | refine J (st_neqPr Try.underlying9 Z Z) ?_ | refine J (st_neqMz Try.underlying9 Z Z) ?_ | refine J (IC Try.underlying9 Z Z Z) ?_ | refine J (st_neqFN Try.underlying9 Z Z) ?_
     refine J (H8 Z Z Z Z) (AF ?_)
     first | refine BG rfl (fun h66=>?_) (fun h66=>?_) | refine BB rfl (fun h66=>?_) (fun h66=>?_)
     ·refine Fh [[],[0],[],[2],[],[2,3,4],[2,3,4,5],[2,3,4,5,6],[0,1,2,3,4,5,6,7],[0,1,2,3,4,5,6,7,8],[0,1,2,3,4,5,6,7,8,9]] mixed rfl (EK ?_)
      first | refine AE [6] [] Z Z (fun _=>AB (A2 rfl Ah Z Z Z)) ?_ | refine AH [6] Z Z (fun _=>AB (A2 rfl Ah Z Z Z)) ?_ | refine AE [6] [] Z Z (fun _=>AB (A4 rfl Ah Z Z Z)) ?_ | refine AH [6] Z Z (fun _=>AB (A4 rfl Ah Z Z Z)) ?_ | refine AE [6] [] Z Z (fun _=>AB (A5 rfl Ah Z Z Z)) ?_ | refine AH [6] Z Z (fun _=>AB (A5 rfl Ah Z Z Z)) ?_ | refine AE [6] [] Z Z (fun _=>AB (A3 rfl Ah Z Z Z)) ?_ | refine AH [6] Z Z (fun _=>AB (A3 rfl Ah Z Z Z)) ?_ | refine AE [6] [] Z Z (fun _=>AB (A1 rfl Ah Z Z Z)) ?_ | refine AH [6] Z Z (fun _=>AB (A1 rfl Ah Z Z Z)) ?_
      first | refine AE [67] [32] Z Z (fun _=>AB (AY Z Z Aw rfl)) ?_ | refine AE [67] [32] Z Z (fun _=>AB (AW Z Z Z Aw rfl)) ?_ | refine AE [67] [32] Z Z (fun _=>AB (AX Z Z (rfl) rfl Aw rfl)) ?_
      first | refine AE [2] [] Z Z (fun _=>AB (A2 rfl Ah Z Z Z)) ?_ | refine AH [2] Z Z (fun _=>AB (A2 rfl Ah Z Z Z)) ?_ | refine AE [2] [] Z Z (fun _=>AB (A4 rfl Ah Z Z Z)) ?_ | refine AH [2] Z Z (fun _=>AB (A4 rfl Ah Z Z Z)) ?_ | refine AE [2] [] Z Z (fun _=>AB (A5 rfl Ah Z Z Z)) ?_ | refine AH [2] Z Z (fun _=>AB (A5 rfl Ah Z Z Z)) ?_ | refine AE [2] [] Z Z (fun _=>AB (A3 rfl Ah Z Z Z)) ?_ | refine AH [2] Z Z (fun _=>AB (A3 rfl Ah Z Z Z)) ?_ | refine AE [2] [] Z Z (fun _=>AB (A1 rfl Ah Z Z Z)) ?_ | refine AH [2] Z Z (fun _=>AB (A1 rfl Ah Z Z Z)) ?_
      first | refine AE [69] [20] Z Z (fun _=>AB (AY Z Z Aw rfl)) ?_ | refine AE [69] [20] Z Z (fun _=>AB (AW Z Z Z Aw rfl)) ?_ | refine AE [69] [20] Z Z (fun _=>AB (AX Z Z (rfl) rfl Aw rfl)) ?_
      first | refine AE [8] [] Z Z (fun _=>AB (Aa Z Z)) ?_ | refine AH [8] Z Z (fun _=>AB (Aa Z Z)) ?_
      first | refine AE [70,71] [] Z Z (fun _=>AB (BM (k) Z Z (rfl) (DG hkl) Try.underlying33 rfl C3 rfl)) ?_ | refine AH [70,71] Z Z (fun _=>AB (BM (k) Z Z (rfl) (DG hkl) Try.underlying33 rfl C3 rfl)) ?_ | refine AE [70,71] [] Z Z (fun _=>AB (BN (k) Z Z (rfl) (DG hkl) rfl Try.underlying33 C3 rfl)) ?_ | refine AH [70,71] Z Z (fun _=>AB (BN (k) Z Z (rfl) (DG hkl) rfl Try.underlying33 C3 rfl)) ?_
      first | refine AE [72] [] Z Z (fun _=>AB (BW Z Z As rfl)) ?_ | refine AH [72] Z Z (fun _=>AB (BW Z Z As rfl)) ?_ | refine AE [72] [] Z Z (fun _=>AB (BX Z Z As Z Z Z)) ?_ | refine AH [72] Z Z (fun _=>AB (BX Z Z As Z Z Z)) ?_ | refine AE [72] [] Z Z (fun _=>AB (BY Z Z (rfl) rfl As rfl)) ?_ | refine AH [72] Z Z (fun _=>AB (BY Z Z (rfl) rfl As rfl)) ?_
      refine Bs [73] [36] [(74,_)] Z Z (fun _=>Hl (Gl 36 Em Z Z Z Z Z Z Z Z)) (.inr ⟨74,_,rfl,rfl,rfl,rfl,rfl⟩) Z Z Z Z Z (EL 8 Z Z Z (B6 9 Z Z ?_))
      first | refine U (JE (acc) ([w.K[k]]) Z Z Z Z Z Z Z Z Em (by simp only [List.length_singleton];omega) Z Z Z Z) ?_ | refine U (KM (acc) ([w.K[k]]) Z Z Z Z Z Z (fun _=>rfl) Em (by simp only [List.length_singleton];omega) Z Z Z Z) ?_
      refine AF ⟨rfl,?_⟩;refine B6 10 Z Z ?_
      first | refine J (A2 rfl Ah Z Z Z) ?_ | refine J (A4 rfl Ah Z Z Z) ?_ | refine J (A5 rfl Ah Z Z Z) ?_ | refine J (A3 rfl Ah Z Z Z) ?_ | refine J (A1 rfl Ah Z Z Z) ?_
      refine AF ⟨rfl,?_⟩;refine B6 11 Z Z (U (Bu Z Z Z Z Z Z Z sz33) (AF ⟨rfl,?_⟩));refine Es (AI (AC Z Z (J (DA Z Z (IntWalk.i64_in _ (by omega)) rfl) (AD Z Z (AF ?_)))));exact ⟨(k+1,acc++ [w.K[k]]),⟨hkl,by show _=HK x w.K (k+1);rw [Q8 hkl h57 h66,hacc]⟩,by show w.K.length - (k+1)<w.K.length - k;omega,BK hF [20,21,32,35] rfl (rfl) ⟨rfl,rfl,rfl,rfl,rfl,trivial⟩⟩
     ·refine An (AI (AC Z Z (J (DA Z Z (IntWalk.i64_in _ (by omega)) rfl) (AD Z Z (AF ?_)))));exact ⟨(k+1,acc),⟨hkl,by show _=HK x w.K (k+1);rw [KB hkl (by first | exact .inr (Classical.not_not.1 h66) | exact .inl (Classical.not_not.1 h57)),hacc]⟩,by show w.K.length - (k+1)<w.K.length - k;omega,BK hF [20,21,32,35] rfl (rfl) ⟨rfl,rfl,rfl,rfl,rfl,trivial⟩⟩
    ·refine BH Z Z Z Z (BH Z Z Z Z (BH Z Z Z Z (BH Z Z Z Z (BH Z Z Z Z (BH Z Z Z Z (BH Z Z Z Z (BH Z Z Z Z ?_)))))));refine J (GR Z Z Z Z) (AF (Dk Z Z (An (AI (AC Z Z (J (DA Z Z (IntWalk.i64_in _ (by omega)) rfl) (AD Z Z (AF ?_))))))));exact ⟨(k+1,acc),⟨hkl,by show _=HK x w.K (k+1);rw [KB hkl (by first | exact .inr (Classical.not_not.1 h66) | exact .inl (Classical.not_not.1 h57)),hacc]⟩,by show w.K.length - (k+1)<w.K.length - k;omega,BK hF [20,21,32,35] rfl (rfl) ⟨rfl,rfl,rfl,rfl,rfl,trivial⟩⟩
   ·refine Eg (AG (AG ?_));have hke:k=w.K.length:=by have:=h46;omega
    have hac:acc=(Ed w x).K:=by rw [hacc,hke];unfold HK Ed;rw [List.take_length]
    refine CM (ys:=acc.map Nf) 32 0 1 35 Z Z Z (Nat.le_of_eq (by rw [List.length_map])) (List.take_of_length_le (by rw [List.length_map];exact Nat.le_refl _)) Z Z Z Z Z Z ?_;rw [hac];refine AI ?_
    first | refine J (BW Z Z AP rfl) ?_ | refine J (BX Z Z AP Z Z Z) ?_ | refine J (BY Z Z (rfl) rfl AP rfl) ?_
    refine J (DW (CR (Ed w x) (hw.cut x) (Nat.le_trans (List.length_filter_le _ _) (by omega))) Z Z) (AC Z Z ?_)
    first | refine J (Bo Z Z Z) ?_ | refine J (Bn Z Z Z) ?_
    first | refine J (Bo Z Z Z) ?_ | refine J (Bn Z Z Z) ?_
    refine AD Z Z (AD Z Z (AF (AG (AI (AC Z Z ?_)))))
    first | refine J (El Z Z) ?_ | refine J (Ek Z Z) ?_
    refine AF ?_
    first | refine BG rfl (fun h83=>?_) (fun h83=>?_) | refine BB rfl (fun h83=>?_) (fun h83=>?_)
    ·refine AG (AI ?_)
     first | refine J (BW Z Z AP rfl) ?_ | refine J (BX Z Z AP Z Z Z) ?_ | refine J (BY Z Z (rfl) rfl AP rfl) ?_
     refine U (Bu Z Z Z Z Z Z Z Bh) (AD Z Z (AF (Ay ?_)));have hc:acyW (Ed w x)=false:=by simpa using h83
     exact ⟨_,[],[],Av rfl,rfl,rfl,by rw [h0,hc];rfl,rfl⟩
    ·refine An (AG (AI ?_))
     first | refine J (BW Z Z AP rfl) ?_ | refine J (BX Z Z AP Z Z Z) ?_ | refine J (BY Z Z (rfl) rfl AP rfl) ?_
     refine U (Bu Z Z Z Z Z Z Z Bh) (AD Z Z (AF (Ay ?_)));have hc:acyW (Ed w x)=true:=by simpa using h83
     exact ⟨_,[],[],Av rfl,rfl,rfl,by rw [h0,if_pos hc],rfl⟩
abbrev JM.lw (o:JM):Lw:=⟨o.x,o.l.t,o.l.r⟩
noncomputable def opW (w:Ws) (o:JM):Ws×Int:=
 if o.k=0 then addW w o.x else if o.k=1 then lnkW w o.lw else if o.k=2 then unlW w o.lw else if o.k=3 then remW w o.x else (w,0)
theorem Pf {w:Ws} {o:JM} (h:o.k=0):opW w o=addW w o.x:=if_pos h
theorem Pe {w:Ws} {o:JM} (h:o.k=1):opW w o=lnkW w o.lw:=by unfold opW;rw [if_neg (by omega),if_pos h]
theorem Pd {w:Ws} {o:JM} (h:o.k=2):opW w o=unlW w o.lw:=by unfold opW;rw [if_neg (by omega),if_neg (by omega),if_pos h]
theorem Pc {w:Ws} {o:JM} (h:o.k=3):opW w o=remW w o.x:=by unfold opW;rw [if_neg (by omega),if_neg (by omega),if_neg (by omega),if_pos h]
theorem Pb {w:Ws} {o:JM} (h0:¬o.k=0) (h1:¬o.k=1) (h2:¬o.k=2) (h3:¬o.k=3):opW w o=(w,0):=by unfold opW;rw [if_neg h0,if_neg h1,if_neg h2,if_neg h3]
theorem Cv.op {w:Ws} {n:Nat} (h:Cv w n) (o:JM):Cv (opW w o).1 (n+1):=by
 unfold opW
 split
 ·exact h.add _
 split
 ·exact h.lnk _
 split
 ·exact (h.unl _).mono (Nat.le_succ _)
 split
 ·exact (h.rem _).mono (Nat.le_succ _)
 ·exact h.mono (Nat.le_succ _)
set_option maxHeartbeats 1000000 in
theorem Nc (w:Ws) (hw:Ba w) (hK:w.K.length≤1000000) (o:JM):B4 Try.prog 15 [.d (LH w),.d (opD o)] (.tup [LH (opW w o).1,Bt (opW w o).2]):=by
 refine DY Try.func15 Z Z Try.ntmps15 Z Z Z fun F hF=>?_;refine AG (AI (U (Iz 20 Z Z Z Z Z Z Z) (U (Iz 21 Z Z Z Z Z Z Z) (U (IF 22 ES Z Z Z Z) (AD Z Z (AF (AG (AI ?_))))))))
 first | refine J (A2 rfl FO Z Z Z) ?_ | refine J (A4 rfl FO Z Z Z) ?_ | refine J (A5 rfl FO Z Z Z) ?_ | refine J (A3 rfl FO Z Z Z) ?_ | refine J (A1 rfl FO Z Z Z) ?_
 first | refine J (AY Z Z AZ rfl) ?_ | refine J (AW Z Z Z AZ rfl) ?_ | refine J (AX Z Z (rfl) rfl AZ rfl) ?_
 first | refine J (A2 rfl KI Z Z Z) ?_ | refine J (A4 rfl KI Z Z Z) ?_ | refine J (A5 rfl KI Z Z Z) ?_ | refine J (A3 rfl KI Z Z Z) ?_ | refine J (A1 rfl KI Z Z Z) ?_
 first | refine J (A2 rfl Hk Z Z Z) ?_ | refine J (A4 rfl Hk Z Z Z) ?_ | refine J (A5 rfl Hk Z Z Z) ?_ | refine J (A3 rfl Hk Z Z Z) ?_ | refine J (A1 rfl Hk Z Z Z) ?_
 first | refine J (AY Z Z B8 rfl) ?_ | refine J (AW Z Z Z B8 rfl) ?_ | refine J (AX Z Z (rfl) rfl B8 rfl) ?_
 first | refine J (A2 rfl KI Z Z Z) ?_ | refine J (A4 rfl KI Z Z Z) ?_ | refine J (A5 rfl KI Z Z Z) ?_ | refine J (A3 rfl KI Z Z Z) ?_ | refine J (A1 rfl KI Z Z Z) ?_
 first | refine J (A2 rfl CB Z Z Z) ?_ | refine J (A4 rfl CB Z Z Z) ?_ | refine J (A5 rfl CB Z Z Z) ?_ | refine J (A3 rfl CB Z Z Z) ?_ | refine J (A1 rfl CB Z Z Z) ?_
 first | refine J (AY Z Z AZ rfl) ?_ | refine J (AW Z Z Z AZ rfl) ?_ | refine J (AX Z Z (rfl) rfl AZ rfl) ?_
 refine J (M8 zl71 pl71 Z Z Z) (U (IF 23 zl71 Z Z Z Z) (U (Bu Z Z Z Z Z Z Z C3) (AF (AG (AG (AI ?_))))))
 first | refine J (A2 rfl Ds Z Z Z) ?_ | refine J (A4 rfl Ds Z Z Z) ?_ | refine J (A5 rfl Ds Z Z Z) ?_ | refine J (A3 rfl Ds Z Z Z) ?_ | refine J (A1 rfl Ds Z Z Z) ?_
 first | refine J (AY Z Z B8 rfl) ?_ | refine J (AW Z Z Z B8 rfl) ?_ | refine J (AX Z Z (rfl) rfl B8 rfl) ?_
 refine AF (B9 (AG (AI ?_)))
 first | refine J (FP Z Z Z) ?_ | refine J (FX Z Z Z) ?_ | refine J (Et Z Z Z) ?_ | refine J (FQ Try.underlying3 Z Z Z) ?_ | refine J (FT Try.underlying3 Z Z Z) ?_ | refine J (fSq Try.underlying3 Z Z) ?_ | refine J (FW Try.underlying3 Z Z) ?_ | refine J (FV Try.underlying3 Z Z) ?_ | refine J (FR Try.underlying3 Z Z Z) ?_ | refine J (FU Try.underlying3 Z Z) ?_
 refine AD Z Z (AF ?_)
 first | refine BG rfl (fun h18=>?_) (fun h18=>?_) | refine BB rfl (fun h18=>?_) (fun h18=>?_)
 ·refine AG (AI ?_)
  first | refine J (BW Z Z AP rfl) ?_ | refine J (BX Z Z AP Z Z Z) ?_ | refine J (BY Z Z (rfl) rfl AP rfl) ?_
  first | refine J (A2 rfl FO Z Z Z) ?_ | refine J (A4 rfl FO Z Z Z) ?_ | refine J (A5 rfl FO Z Z Z) ?_ | refine J (A3 rfl FO Z Z Z) ?_ | refine J (A1 rfl FO Z Z Z) ?_
  first | refine J (AY Z Z AZ rfl) ?_ | refine J (AW Z Z Z AZ rfl) ?_ | refine J (AX Z Z (rfl) rfl AZ rfl) ?_
  refine J (DW (P0 w hw o.x) Z Z) ?_
  first | refine J (Bo Z Z Z) ?_ | refine J (Bn Z Z Z) ?_
  first | refine J (Bo Z Z Z) ?_ | refine J (Bn Z Z Z) ?_
  refine U (Bu Z Z Z Z Z Z Z Bh) (AD Z Z (AF (Ay ?_)));exact ⟨_,[],[],Av rfl,rfl,rfl,by rw [Pf h18],rfl⟩
 ·refine AG (AI ?_)
  first | refine J (FP Z Z Z) ?_ | refine J (FX Z Z Z) ?_ | refine J (Et Z Z Z) ?_ | refine J (FQ Try.underlying3 Z Z Z) ?_ | refine J (FT Try.underlying3 Z Z Z) ?_ | refine J (fSq Try.underlying3 Z Z) ?_ | refine J (FW Try.underlying3 Z Z) ?_ | refine J (FV Try.underlying3 Z Z) ?_ | refine J (FR Try.underlying3 Z Z Z) ?_ | refine J (FU Try.underlying3 Z Z) ?_
  refine AD Z Z (AF ?_)
  first | refine BG rfl (fun h26=>?_) (fun h26=>?_) | refine BB rfl (fun h26=>?_) (fun h26=>?_)
  ·refine AG (AI ?_)
   first | refine J (BW Z Z AP rfl) ?_ | refine J (BX Z Z AP Z Z Z) ?_ | refine J (BY Z Z (rfl) rfl AP rfl) ?_
   first | refine J (BW Z Z As rfl) ?_ | refine J (BX Z Z As Z Z Z) ?_ | refine J (BY Z Z (rfl) rfl As rfl) ?_
   refine J (DW (K6 w hw hK o.lw) Z Z) ?_
   first | refine J (Bo Z Z Z) ?_ | refine J (Bn Z Z Z) ?_
   first | refine J (Bo Z Z Z) ?_ | refine J (Bn Z Z Z) ?_
   refine U (Bu Z Z Z Z Z Z Z Bh) (AD Z Z (AF (Ay ?_)));exact ⟨_,[],[],Av rfl,rfl,rfl,by rw [Pe h26],rfl⟩
  ·refine AG (AI ?_)
   first | refine J (FP Z Z Z) ?_ | refine J (FX Z Z Z) ?_ | refine J (Et Z Z Z) ?_ | refine J (FQ Try.underlying3 Z Z Z) ?_ | refine J (FT Try.underlying3 Z Z Z) ?_ | refine J (fSq Try.underlying3 Z Z) ?_ | refine J (FW Try.underlying3 Z Z) ?_ | refine J (FV Try.underlying3 Z Z) ?_ | refine J (FR Try.underlying3 Z Z Z) ?_ | refine J (FU Try.underlying3 Z Z) ?_
   refine AD Z Z (AF ?_)
   first | refine BG rfl (fun h33=>?_) (fun h33=>?_) | refine BB rfl (fun h33=>?_) (fun h33=>?_)
   ·refine AG (AI ?_)
    first | refine J (BW Z Z AP rfl) ?_ | refine J (BX Z Z AP Z Z Z) ?_ | refine J (BY Z Z (rfl) rfl AP rfl) ?_
    first | refine J (BW Z Z As rfl) ?_ | refine J (BX Z Z As Z Z Z) ?_ | refine J (BY Z Z (rfl) rfl As rfl) ?_
    refine J (DW (L7 w hw hK o.lw) Z Z) ?_
    first | refine J (Bo Z Z Z) ?_ | refine J (Bn Z Z Z) ?_
    first | refine J (Bo Z Z Z) ?_ | refine J (Bn Z Z Z) ?_
    refine U (Bu Z Z Z Z Z Z Z Bh) (AD Z Z (AF (Ay ?_)));exact ⟨_,[],[],Av rfl,rfl,rfl,by rw [Pd h33],rfl⟩
   ·refine AG (AI ?_)
    first | refine J (FP Z Z Z) ?_ | refine J (FX Z Z Z) ?_ | refine J (Et Z Z Z) ?_ | refine J (FQ Try.underlying3 Z Z Z) ?_ | refine J (FT Try.underlying3 Z Z Z) ?_ | refine J (fSq Try.underlying3 Z Z) ?_ | refine J (FW Try.underlying3 Z Z) ?_ | refine J (FV Try.underlying3 Z Z) ?_ | refine J (FR Try.underlying3 Z Z Z) ?_ | refine J (FU Try.underlying3 Z Z) ?_
    refine AD Z Z (AF ?_)
    first | refine BG rfl (fun h40=>?_) (fun h40=>?_) | refine BB rfl (fun h40=>?_) (fun h40=>?_)
    ·refine AG (AI ?_)
     first | refine J (BW Z Z AP rfl) ?_ | refine J (BX Z Z AP Z Z Z) ?_ | refine J (BY Z Z (rfl) rfl AP rfl) ?_
     first | refine J (A2 rfl FO Z Z Z) ?_ | refine J (A4 rfl FO Z Z Z) ?_ | refine J (A5 rfl FO Z Z Z) ?_ | refine J (A3 rfl FO Z Z Z) ?_ | refine J (A1 rfl FO Z Z Z) ?_
     first | refine J (AY Z Z AZ rfl) ?_ | refine J (AW Z Z Z AZ rfl) ?_ | refine J (AX Z Z (rfl) rfl AZ rfl) ?_
     refine J (DW (L8 w hw hK o.x) Z Z) ?_
     first | refine J (Bo Z Z Z) ?_ | refine J (Bn Z Z Z) ?_
     first | refine J (Bo Z Z Z) ?_ | refine J (Bn Z Z Z) ?_
     refine U (Bu Z Z Z Z Z Z Z Bh) (AD Z Z (AF (Ay ?_)));exact ⟨_,[],[],Av rfl,rfl,rfl,by rw [Pc h40],rfl⟩
    ·refine An (AG (AI ?_))
     first | refine J (BW Z Z AP rfl) ?_ | refine J (BX Z Z AP Z Z Z) ?_ | refine J (BY Z Z (rfl) rfl AP rfl) ?_
     refine U (Bu Z Z Z Z Z Z Z Bh) (AD Z Z (AF (Ay ?_)));exact ⟨_,[],[],Av rfl,rfl,rfl,by rw [Pb h18 h26 h33 h40],rfl⟩
set_option maxHeartbeats 1000000 in
theorem do_c {M:MF} {b:Nat} {w:Ws} (h:B7 M b w) (hw:Ba w) (hK:w.K.length≤999999) (o:JM):AT Try.prog 16 [.d (pD b 0),.d (opD o)] [(40,[.multi M])] fun r H'=>∃M',r= .d (Bt (opW w o).2)∧H'=[(40,[.multi M'])]∧B7 M' b (opW w o).1:=by
 refine DY Try.func16 Z Z Try.ntmps16 Z Z Z fun F hF=>(AG (AI (U (Iz 20 Z Z Z Z Z Z Z) (AD Z Z (AF (AG (AG (AI ?_))))))))
 first | refine J (A2 rfl Ds Z Z Z) ?_ | refine J (A4 rfl Ds Z Z Z) ?_ | refine J (A5 rfl Ds Z Z Z) ?_ | refine J (A3 rfl Ds Z Z Z) ?_ | refine J (A1 rfl Ds Z Z Z) ?_
 first | refine J (AY Z Z B8 rfl) ?_ | refine J (AW Z Z Z B8 rfl) ?_ | refine J (AX Z Z (rfl) rfl B8 rfl) ?_
 refine AF (B9 (AG (AI ?_)))
 first | refine J (FP Z Z Z) ?_ | refine J (FX Z Z Z) ?_ | refine J (Et Z Z Z) ?_ | refine J (FQ Try.underlying3 Z Z Z) ?_ | refine J (FT Try.underlying3 Z Z Z) ?_ | refine J (fSq Try.underlying3 Z Z) ?_ | refine J (FW Try.underlying3 Z Z) ?_ | refine J (FV Try.underlying3 Z Z) ?_ | refine J (FR Try.underlying3 Z Z Z) ?_ | refine J (FU Try.underlying3 Z Z) ?_
 refine AD Z Z (AF ?_)
 first | refine BG rfl (fun h7=>?_) (fun h7=>?_) | refine BB rfl (fun h7=>?_) (fun h7=>?_)
 ·refine AG (AI (AC Z Z ?_))
  first | refine J (A2 rfl FO Z Z Z) ?_ | refine J (A4 rfl FO Z Z Z) ?_ | refine J (A5 rfl FO Z Z Z) ?_ | refine J (A3 rfl FO Z Z Z) ?_ | refine J (A1 rfl FO Z Z Z) ?_
  first | refine J (AY Z Z AZ rfl) ?_ | refine J (AW Z Z Z AZ rfl) ?_ | refine J (AX Z Z (rfl) rfl AZ rfl) ?_
  refine Iy (KN (Np h hw o.x) rfl [40] ⟨rfl,trivial⟩ Z Z Z Z (fun r H' ⟨M,e1,e2,_⟩=>by subst e1 e2;exact ⟨rfl,rfl,rfl⟩) rfl) rfl ?_;rintro _ ⟨r,H',⟨M1,e1,e2,h1⟩,rfl⟩;subst e1 e2;refine AD Z Z (AF (Ay ?_));exact ⟨_,[40],_,Av rfl,rfl,rfl,M1,by rw [Pf h7],rfl,by rw [Pf h7];exact h1⟩
 ·refine AG (AI ?_)
  first | refine J (FP Z Z Z) ?_ | refine J (FX Z Z Z) ?_ | refine J (Et Z Z Z) ?_ | refine J (FQ Try.underlying3 Z Z Z) ?_ | refine J (FT Try.underlying3 Z Z Z) ?_ | refine J (fSq Try.underlying3 Z Z) ?_ | refine J (FW Try.underlying3 Z Z) ?_ | refine J (FV Try.underlying3 Z Z) ?_ | refine J (FR Try.underlying3 Z Z Z) ?_ | refine J (FU Try.underlying3 Z Z) ?_
  refine AD Z Z (AF ?_)
  first | refine BG rfl (fun h13=>?_) (fun h13=>?_) | refine BB rfl (fun h13=>?_) (fun h13=>?_)
  ·refine AG (AI (AC Z Z ?_))
   first | refine J (A2 rfl FO Z Z Z) ?_ | refine J (A4 rfl FO Z Z Z) ?_ | refine J (A5 rfl FO Z Z Z) ?_ | refine J (A3 rfl FO Z Z Z) ?_ | refine J (A1 rfl FO Z Z Z) ?_
   first | refine J (AY Z Z AZ rfl) ?_ | refine J (AW Z Z Z AZ rfl) ?_ | refine J (AX Z Z (rfl) rfl AZ rfl) ?_
   first | refine J (A2 rfl KI Z Z Z) ?_ | refine J (A4 rfl KI Z Z Z) ?_ | refine J (A5 rfl KI Z Z Z) ?_ | refine J (A3 rfl KI Z Z Z) ?_ | refine J (A1 rfl KI Z Z Z) ?_
   first | refine J (BW Z Z Aq rfl) ?_ | refine J (BX Z Z Aq Z Z Z) ?_ | refine J (BY Z Z (rfl) rfl Aq rfl) ?_
   refine Iy (KN (Kd h hw hK o.lw) rfl [40] ⟨rfl,trivial⟩ Z Z Z Z (fun r H' ⟨M,e1,e2,_⟩=>by subst e1 e2;exact ⟨rfl,rfl,rfl⟩) rfl) rfl ?_;rintro _ ⟨r,H',⟨M1,e1,e2,h1⟩,rfl⟩;subst e1 e2;refine AD Z Z (AF (Ay ?_));exact ⟨_,[40],_,Av rfl,rfl,rfl,M1,by rw [Pe h13],rfl,by rw [Pe h13];exact h1⟩
  ·refine AG (AI ?_)
   first | refine J (FP Z Z Z) ?_ | refine J (FX Z Z Z) ?_ | refine J (Et Z Z Z) ?_ | refine J (FQ Try.underlying3 Z Z Z) ?_ | refine J (FT Try.underlying3 Z Z Z) ?_ | refine J (fSq Try.underlying3 Z Z) ?_ | refine J (FW Try.underlying3 Z Z) ?_ | refine J (FV Try.underlying3 Z Z) ?_ | refine J (FR Try.underlying3 Z Z Z) ?_ | refine J (FU Try.underlying3 Z Z) ?_
   refine AD Z Z (AF ?_)
   first | refine BG rfl (fun h21=>?_) (fun h21=>?_) | refine BB rfl (fun h21=>?_) (fun h21=>?_)
   ·refine AG (AI (AC Z Z ?_))
    first | refine J (A2 rfl FO Z Z Z) ?_ | refine J (A4 rfl FO Z Z Z) ?_ | refine J (A5 rfl FO Z Z Z) ?_ | refine J (A3 rfl FO Z Z Z) ?_ | refine J (A1 rfl FO Z Z Z) ?_
    first | refine J (AY Z Z AZ rfl) ?_ | refine J (AW Z Z Z AZ rfl) ?_ | refine J (AX Z Z (rfl) rfl AZ rfl) ?_
    first | refine J (A2 rfl KI Z Z Z) ?_ | refine J (A4 rfl KI Z Z Z) ?_ | refine J (A5 rfl KI Z Z Z) ?_ | refine J (A3 rfl KI Z Z Z) ?_ | refine J (A1 rfl KI Z Z Z) ?_
    first | refine J (BW Z Z Aq rfl) ?_ | refine J (BX Z Z Aq Z Z Z) ?_ | refine J (BY Z Z (rfl) rfl Aq rfl) ?_
    refine Iy (KN (PC h hw (by omega) o.lw) rfl [40] ⟨rfl,trivial⟩ Z Z Z Z (fun r H' ⟨M,e1,e2,_⟩=>by subst e1 e2;exact ⟨rfl,rfl,rfl⟩) rfl) rfl ?_;rintro _ ⟨r,H',⟨M1,e1,e2,h1⟩,rfl⟩;subst e1 e2;refine AD Z Z (AF (Ay ?_));exact ⟨_,[40],_,Av rfl,rfl,rfl,M1,by rw [Pd h21],rfl,by rw [Pd h21];exact h1⟩
   ·refine AG (AI ?_)
    first | refine J (FP Z Z Z) ?_ | refine J (FX Z Z Z) ?_ | refine J (Et Z Z Z) ?_ | refine J (FQ Try.underlying3 Z Z Z) ?_ | refine J (FT Try.underlying3 Z Z Z) ?_ | refine J (fSq Try.underlying3 Z Z) ?_ | refine J (FW Try.underlying3 Z Z) ?_ | refine J (FV Try.underlying3 Z Z) ?_ | refine J (FR Try.underlying3 Z Z Z) ?_ | refine J (FU Try.underlying3 Z Z) ?_
    refine AD Z Z (AF ?_)
    first | refine BG rfl (fun h29=>?_) (fun h29=>?_) | refine BB rfl (fun h29=>?_) (fun h29=>?_)
    ·refine AG (AI (AC Z Z ?_))
     first | refine J (A2 rfl FO Z Z Z) ?_ | refine J (A4 rfl FO Z Z Z) ?_ | refine J (A5 rfl FO Z Z Z) ?_ | refine J (A3 rfl FO Z Z Z) ?_ | refine J (A1 rfl FO Z Z Z) ?_
     first | refine J (AY Z Z AZ rfl) ?_ | refine J (AW Z Z Z AZ rfl) ?_ | refine J (AX Z Z (rfl) rfl AZ rfl) ?_
     refine Iy (KN (PZ h hw (by omega) o.x) rfl [40] ⟨rfl,trivial⟩ Z Z Z Z (fun r H' ⟨M,e1,e2,_⟩=>by subst e1 e2;exact ⟨rfl,rfl,rfl⟩) rfl) rfl ?_;rintro _ ⟨r,H',⟨M1,e1,e2,h1⟩,rfl⟩;subst e1 e2;refine AD Z Z (AF (Ay ?_));exact ⟨_,[40],_,Av rfl,rfl,rfl,M1,by rw [Pc h29],rfl,by rw [Pc h29];exact h1⟩
    ·refine An (AG (AI (AD Z Z (AF (Ay ?_)))));exact ⟨_,[40],_,Av rfl,rfl,rfl,M,by rw [Pb h7 h13 h21 h29],rfl,by rw [Pb h7 h13 h21 h29];exact h⟩
abbrev opsD (l:List JM):D:= .sl none (l.map opD)
theorem few_p (l:List JM) (hl:l.length≤140737488355328):B4 Try.prog 14 [.d (opsD l)] (opsD (l.take 24)):=by
 refine DY Try.func14 Z Z Try.ntmps14 Z Z Z fun F hF=>?_;refine AG (AI (AD Z Z (AF (AG (AI (AC Z Z (AC Z Z (J (CG rfl (List.length_map ..) Try.underlying30 rfl) ?_))))))))
 obtain ⟨m,hm,hm1,hm2⟩:∃m:Nat,(if (24:Int)<(l.length:Int) then (24:Int) else (l.length:Int))=(m:Int)∧m≤l.length∧l.take m=l.take 24:=⟨min l.length 24,by omega,by omega,by rw [Nat.min_comm,←List.take_take,List.take_length]⟩
 refine J (st_min Z Z (hm) rfl) ?_
 first | refine J (Mh (m) Z Z Z (by rw [List.length_map];exact hm1) Try.underlying30 LL (by simp [D.cells,byteD]) (List.map_take.symm) rfl) ?_ | refine J (J3 (m) Z Z Z (by rw [List.length_map];exact hm1) rfl Try.underlying30 LL rfl) ?_
 refine AD Z Z (AF (Ay ?_));exact ⟨_,[],[],Av rfl,rfl,rfl,by rw [hm2],rfl⟩
theorem Ct {l:List Grp} {k:Nat} (h:k<l.length):(l.map Hh)[k]?=some (Hh l[k]):=by
 rw [List.getElem?_map,List.getElem?_eq_getElem h];rfl
set_option maxHeartbeats 4000000 in
theorem seen_c {M:MF} {b:Nat} {w:Ws} (h:B7 M b w) (hw:Ba w) (hac:acyW w=true) (hK:w.K.length≤1000000) (hg1:(groupsW w).length≤1000000) (hg2:∀g∈groupsW w,g.m.length≤1000000∧g.a.length≤1000000):AT Try.prog 17 [.d (pD b 0),.d (LH w)] [(40,[.multi M])] fun r H'=>r= .d (Ar true)∧H'=[(40,[.multi M])]:=by
 have hgd:gD w=DF (groupsW w):=if_pos hac
 obtain ⟨G,hG⟩:∃G,groupsW w=G:=⟨_,rfl⟩
 rw [hG] at hgd hg1 hg2;refine DY Try.func17 Z Z Try.ntmps17 Z Z Z fun F hF=>(AG (AI (U (Iz 20 Z Z Z Z Z Z Z) (AD Z Z ?_))));refine AF (AG (AI (AC Z Z (U (HM (MM h hw hK) rfl [40] ⟨rfl,trivial⟩ Z Z Z Z Z Z Z Z Z) (AD Z Z (AF (AG (AI ?_))))))))
 first | refine J (BW Z Z AP rfl) ?_ | refine J (BX Z Z AP Z Z Z) ?_ | refine J (BY Z Z (rfl) rfl AP rfl) ?_
 refine J (DW (CR w hw (by omega)) Z Z) (AC Z Z ?_)
 first | refine J (Bo Z Z Z) ?_ | refine J (Bn Z Z Z) ?_
 first | refine J (Bo Z Z Z) ?_ | refine J (Bn Z Z Z) ?_
 refine AD Z Z (AD Z Z (AF (AG (AG ?_))));rw [hgd,hac,hG];refine Fh [[],[0],[0,1],[0,1,2],[0,1,2,3],[0,1,2],[0,1,2,5],[0,1,2,3,4,5,6],[0,1,2,3,4,5,6,7],[0,1,2,3,4,5,6,7,8],[0,1,2,3,4,5,6,7,8,9],[0,1,2,3,4,5,6,7,8,9,10],[0,1,2,3,4,5,6,7,8,9],[0,1,2,3,4,5,6,7,8,9,12],[0,1,2,3,4,5,6,7,8,9,12,13],[0,1,2,3,4,5,6,7,8,9,10,11,12,13,14],[0,1,2,3,4,5,6,7,8,9,10,11,12,13,14,15]] mixed rfl (B6 1 Z Z (AC Z Z (AF ⟨rfl,?_⟩)));refine B6 2 Z Z ?_
 first | refine J (El Z Z) ?_ | refine J (Ek Z Z) ?_
 refine AF ⟨rfl,?_⟩;refine B6 3 Z Z (AC Z Z (E0 19 rfl (rfl) (AF ⟨rfl,?_⟩)));refine EK ?_
 first | refine AE [5,19] [] Z Z (fun _=>Au Z Z Z (Aa Z Z)) ?_ | refine AH [5,19] Z Z (fun _=>Au Z Z Z (Aa Z Z)) ?_
 first | refine AE [20,19] [] Z Z (fun _=>Au Z Z Z (CG rfl (List.length_map ..) Try.underlying47 rfl)) ?_ | refine AH [20,19] Z Z (fun _=>Au Z Z Z (CG rfl (List.length_map ..) Try.underlying47 rfl)) ?_
 first | refine AE [6,19] [] Z Z (fun _=>Au Z Z Z (Aa Z Z)) ?_ | refine AH [6,19] Z Z (fun _=>Au Z Z Z (Aa Z Z)) ?_
 first | refine AE [22,19] [] Z Z (fun _=>Au Z Z Z (CG rfl (List.length_map ..) Try.underlying73 rfl)) ?_ | refine AH [22,19] Z Z (fun _=>Au Z Z Z (CG rfl (List.length_map ..) Try.underlying73 rfl)) ?_
 refine EL 7 Z Z Z (B6 8 Z Z (Ab Z Z Z ?_))
 first | refine J (IH Z Z Z) ?_ | refine J (IG Z Z Z) ?_ | refine J (Hm Z Z Z) ?_ | refine J (IB Try.underlying3 Z Z Z) ?_ | refine J (ID Try.underlying3 Z Z Z) ?_ | refine J (st_neqN Try.underlying3 Z Z) ?_ | refine J (st_neqPr Try.underlying3 Z Z) ?_ | refine J (st_neqMz Try.underlying3 Z Z) ?_ | refine J (IC Try.underlying3 Z Z Z) ?_ | refine J (st_neqFN Try.underlying3 Z Z) ?_
 refine AF ⟨rfl,?_⟩;refine B6 9 Z Z (J (GR Z Z Z Z) (AF ⟨rfl,?_⟩));refine B6 10 Z Z (AC Z Z (E0 26 rfl (by simp) (AF ⟨rfl,?_⟩)));refine EK ?_
 first | refine AE [0,26] [] Z Z (fun _=>Au Z Z Z (Aa Z Z)) ?_ | refine AH [0,26] Z Z (fun _=>Au Z Z Z (Aa Z Z)) ?_
 refine Bs [27,26] [40] [(28,_)] Z Z (fun _=>ge_run Z Z Z (HM (len_c h hw) rfl [40] ⟨rfl,trivial⟩ Z Z Z Z Z Z Z Z Z)) (.inr ⟨28,_,rfl,rfl,rfl,rfl,rfl⟩) Z Z Z Z Z ?_
 first | refine AE [3,26] [] Z Z (fun _=>Au Z Z Z (A2 rfl Ag Z Z Z)) ?_ | refine AH [3,26] Z Z (fun _=>Au Z Z Z (A2 rfl Ag Z Z Z)) ?_ | refine AE [3,26] [] Z Z (fun _=>Au Z Z Z (A4 rfl Ag Z Z Z)) ?_ | refine AH [3,26] Z Z (fun _=>Au Z Z Z (A4 rfl Ag Z Z Z)) ?_ | refine AE [3,26] [] Z Z (fun _=>Au Z Z Z (A5 rfl Ag Z Z Z)) ?_ | refine AH [3,26] Z Z (fun _=>Au Z Z Z (A5 rfl Ag Z Z Z)) ?_ | refine AE [3,26] [] Z Z (fun _=>Au Z Z Z (A3 rfl Ag Z Z Z)) ?_ | refine AH [3,26] Z Z (fun _=>Au Z Z Z (A3 rfl Ag Z Z Z)) ?_ | refine AE [3,26] [] Z Z (fun _=>Au Z Z Z (A1 rfl Ag Z Z Z)) ?_ | refine AH [3,26] Z Z (fun _=>Au Z Z Z (A1 rfl Ag Z Z Z)) ?_
 first | refine AE [29,26] [20] Z Z (fun _=>Au Z Z Z (AY Z Z AR rfl)) ?_ | refine AE [29,26] [20] Z Z (fun _=>Au Z Z Z (AW Z Z Z AR rfl)) ?_ | refine AE [29,26] [20] Z Z (fun _=>Au Z Z Z (AX Z Z (rfl) rfl AR rfl)) ?_
 first | refine AE [30,26] [] Z Z (fun _=>Au Z Z Z (CG rfl (List.length_map ..) Try.underlying32 rfl)) ?_ | refine AH [30,26] Z Z (fun _=>Au Z Z Z (CG rfl (List.length_map ..) Try.underlying32 rfl)) ?_
 refine EL 15 Z Z Z (B6 16 Z Z (Ab Z Z Z ?_))
 first | refine J (IH Z Z Z) ?_ | refine J (IG Z Z Z) ?_ | refine J (Hm Z Z Z) ?_ | refine J (IB Try.underlying3 Z Z Z) ?_ | refine J (ID Try.underlying3 Z Z Z) ?_ | refine J (st_neqN Try.underlying3 Z Z) ?_ | refine J (st_neqPr Try.underlying3 Z Z) ?_ | refine J (st_neqMz Try.underlying3 Z Z) ?_ | refine J (IC Try.underlying3 Z Z Z) ?_ | refine J (st_neqFN Try.underlying3 Z Z) ?_
 refine AF ⟨rfl,?_⟩;refine B6 17 Z Z (J (GR Z Z Z Z) (AF ⟨rfl,?_⟩));refine Es ?_;refine Dk rfl (by simp) (An (AG (AG (AI (AD Z Z (AF (B9 (Fm (α:=Nat) (fun k=>⟨94,[(5,(.d (DF G))),(6,(.d (DF G))),(8,(.d (natD k)))],[(40,[.multi M])]⟩) (fun k=>k≤G.length) (fun k=>G.length - k) (0) (Nat.zero_le _) (BK hF [40] Z Z ⟨rfl,rfl,rfl,trivial⟩) ?_))))))));rintro k hk;refine AG (AG (AI (AC Z Z (AC Z Z (J (CG rfl (List.length_map ..) Try.underlying47 rfl) ?_)))))
 first | refine J (Eo Z Z Z) ?_ | refine J (Ep Z Z Z) ?_
 refine AF ?_
 first | refine BG rfl (fun h37=>?_) (fun h37=>?_) | refine BB rfl (fun h37=>?_) (fun h37=>?_)
 ·refine An (AG (B9 (AG (AG ?_))));have hkl:k<G.length:=H9 h37;obtain ⟨hm1,hm2⟩:=hg2 _ (List.getElem_mem hkl);refine Fh [[],[],[0,1],[0,1,2],[0,1,2,3],[],[],[5,6],[5,6,7],[5,6,7,8],[0,1,2,3,4,5,6,7,8,9],[0,1,2,3,4,5,6,7,8,9,10],[0,1,2,3,4,5,6,7,8,9,10,11],[0,1,2,3,4,5,6,7,8,9,10,11,12],[0,1,2,3,4,5,6,7,8,9,10,11,12],[0,1,2,3,4,5,6,7,8,9,10,11,12,13,14],[0,1,2,3,4,5,6,7,8,9,10,11,12,13,14,15],[0,1,2,3,4,5,6,7,8,9,10,11,12,13,14,15,16],[0,1,2,3,4,5,6,7,8,9,10,11,12,13,14,15,16,17],[0,1,2,3,4,5,6,7,8,9,10,11,12],[0,1,2,3,4,5,6,7,8,9,10,11,12],[0,1,2,3,4,5,6,7,8,9,10,11,12,19,20],[0,1,2,3,4,5,6,7,8,9,10,11,12,19,20,21],[0,1,2,3,4,5,6,7,8,9,10,11,12,19,20,21,22],[0,1,2,3,4,5,6,7,8,9,10,11,12,19,20,21,22,23],[0,1,2,3,4,5,6,7,8,9,10,11,12,13,14,15,16,17,18,19,20,21,22,23,24],[0,1,2,3,4,5,6,7,8,9,10,11,12,13,14,15,16,17,18,19,20,21,22,23,24,25]] mixed rfl (EK ?_)
  first | refine AE [5] [] Z Z (fun _=>AB (Aa Z Z)) ?_ | refine AH [5] Z Z (fun _=>AB (Aa Z Z)) ?_
  first | refine AE [8] [] Z Z (fun _=>AB (Aa Z Z)) ?_ | refine AH [8] Z Z (fun _=>AB (Aa Z Z)) ?_
  first | refine AE [40,41] [] Z Z (fun _=>AB (BM (k) Z Z (rfl) (Ct hkl) Try.underlying47 rfl DM rfl)) ?_ | refine AH [40,41] Z Z (fun _=>AB (BM (k) Z Z (rfl) (Ct hkl) Try.underlying47 rfl DM rfl)) ?_ | refine AE [40,41] [] Z Z (fun _=>AB (BN (k) Z Z (rfl) (Ct hkl) rfl Try.underlying47 DM rfl)) ?_ | refine AH [40,41] Z Z (fun _=>AB (BN (k) Z Z (rfl) (Ct hkl) rfl Try.underlying47 DM rfl)) ?_
  first | refine AE [42] [] Z Z (fun _=>AB (A2 rfl KJ Z Z Z)) ?_ | refine AH [42] Z Z (fun _=>AB (A2 rfl KJ Z Z Z)) ?_ | refine AE [42] [] Z Z (fun _=>AB (A4 rfl KJ Z Z Z)) ?_ | refine AH [42] Z Z (fun _=>AB (A4 rfl KJ Z Z Z)) ?_ | refine AE [42] [] Z Z (fun _=>AB (A5 rfl KJ Z Z Z)) ?_ | refine AH [42] Z Z (fun _=>AB (A5 rfl KJ Z Z Z)) ?_ | refine AE [42] [] Z Z (fun _=>AB (A3 rfl KJ Z Z Z)) ?_ | refine AH [42] Z Z (fun _=>AB (A3 rfl KJ Z Z Z)) ?_ | refine AE [42] [] Z Z (fun _=>AB (A1 rfl KJ Z Z Z)) ?_ | refine AH [42] Z Z (fun _=>AB (A1 rfl KJ Z Z Z)) ?_
  first | refine AE [43] [] Z Z (fun _=>AB (AY Z Z AR rfl)) ?_ | refine AH [43] Z Z (fun _=>AB (AY Z Z AR rfl)) ?_ | refine AE [43] [] Z Z (fun _=>AB (AW Z Z Z AR rfl)) ?_ | refine AH [43] Z Z (fun _=>AB (AW Z Z Z AR rfl)) ?_ | refine AE [43] [] Z Z (fun _=>AB (AX Z Z (rfl) rfl AR rfl)) ?_ | refine AH [43] Z Z (fun _=>AB (AX Z Z (rfl) rfl AR rfl)) ?_
  first | refine AE [6] [] Z Z (fun _=>AB (Aa Z Z)) ?_ | refine AH [6] Z Z (fun _=>AB (Aa Z Z)) ?_
  first | refine AE [8] [] Z Z (fun _=>AB (Aa Z Z)) ?_ | refine AH [8] Z Z (fun _=>AB (Aa Z Z)) ?_
  first | refine AE [45,46] [] Z Z (fun _=>AB (BM (k) Z Z (rfl) (Ct hkl) Try.underlying73 rfl Gs rfl)) ?_ | refine AH [45,46] Z Z (fun _=>AB (BM (k) Z Z (rfl) (Ct hkl) Try.underlying73 rfl Gs rfl)) ?_ | refine AE [45,46] [] Z Z (fun _=>AB (BN (k) Z Z (rfl) (Ct hkl) rfl Try.underlying73 Gs rfl)) ?_ | refine AH [45,46] Z Z (fun _=>AB (BN (k) Z Z (rfl) (Ct hkl) rfl Try.underlying73 Gs rfl)) ?_
  first | refine AE [47] [] Z Z (fun _=>AB (A2 rfl Dr Z Z Z)) ?_ | refine AH [47] Z Z (fun _=>AB (A2 rfl Dr Z Z Z)) ?_ | refine AE [47] [] Z Z (fun _=>AB (A4 rfl Dr Z Z Z)) ?_ | refine AH [47] Z Z (fun _=>AB (A4 rfl Dr Z Z Z)) ?_ | refine AE [47] [] Z Z (fun _=>AB (A5 rfl Dr Z Z Z)) ?_ | refine AH [47] Z Z (fun _=>AB (A5 rfl Dr Z Z Z)) ?_ | refine AE [47] [] Z Z (fun _=>AB (A3 rfl Dr Z Z Z)) ?_ | refine AH [47] Z Z (fun _=>AB (A3 rfl Dr Z Z Z)) ?_ | refine AE [47] [] Z Z (fun _=>AB (A1 rfl Dr Z Z Z)) ?_ | refine AH [47] Z Z (fun _=>AB (A1 rfl Dr Z Z Z)) ?_
  first | refine AE [48] [] Z Z (fun _=>AB (AY Z Z AR rfl)) ?_ | refine AH [48] Z Z (fun _=>AB (AY Z Z AR rfl)) ?_ | refine AE [48] [] Z Z (fun _=>AB (AW Z Z Z AR rfl)) ?_ | refine AH [48] Z Z (fun _=>AB (AW Z Z Z AR rfl)) ?_ | refine AE [48] [] Z Z (fun _=>AB (AX Z Z (rfl) rfl AR rfl)) ?_ | refine AH [48] Z Z (fun _=>AB (AX Z Z (rfl) rfl AR rfl)) ?_
  refine EL 10 Z Z Z (B6 11 Z Z (J (DW (Hu G[k].m G[k].m hm1) Z Z) (AF ⟨rfl,?_⟩)));refine B6 12 Z Z ?_
  first | refine J (El Z Z) ?_ | refine J (Ek Z Z) ?_
  refine AF ⟨rfl,?_⟩;refine B6 13 Z Z (AC Z Z (E0 52 rfl (by simp) (AF ⟨rfl,?_⟩)));refine EK ?_
  first | refine AE [5,52] [] Z Z (fun _=>Au Z Z Z (Aa Z Z)) ?_ | refine AH [5,52] Z Z (fun _=>Au Z Z Z (Aa Z Z)) ?_
  first | refine AE [8,52] [] Z Z (fun _=>Au Z Z Z (Aa Z Z)) ?_ | refine AH [8,52] Z Z (fun _=>Au Z Z Z (Aa Z Z)) ?_
  first | refine AE [53,54,52] [] Z Z (fun _=>Au Z Z Z (BM (k) Z Z (rfl) (Ct hkl) Try.underlying47 rfl DM rfl)) ?_ | refine AH [53,54,52] Z Z (fun _=>Au Z Z Z (BM (k) Z Z (rfl) (Ct hkl) Try.underlying47 rfl DM rfl)) ?_ | refine AE [53,54,52] [] Z Z (fun _=>Au Z Z Z (BN (k) Z Z (rfl) (Ct hkl) rfl Try.underlying47 DM rfl)) ?_ | refine AH [53,54,52] Z Z (fun _=>Au Z Z Z (BN (k) Z Z (rfl) (Ct hkl) rfl Try.underlying47 DM rfl)) ?_
  first | refine AE [55,52] [] Z Z (fun _=>Au Z Z Z (A2 rfl Cc Z Z Z)) ?_ | refine AH [55,52] Z Z (fun _=>Au Z Z Z (A2 rfl Cc Z Z Z)) ?_ | refine AE [55,52] [] Z Z (fun _=>Au Z Z Z (A4 rfl Cc Z Z Z)) ?_ | refine AH [55,52] Z Z (fun _=>Au Z Z Z (A4 rfl Cc Z Z Z)) ?_ | refine AE [55,52] [] Z Z (fun _=>Au Z Z Z (A5 rfl Cc Z Z Z)) ?_ | refine AH [55,52] Z Z (fun _=>Au Z Z Z (A5 rfl Cc Z Z Z)) ?_ | refine AE [55,52] [] Z Z (fun _=>Au Z Z Z (A3 rfl Cc Z Z Z)) ?_ | refine AH [55,52] Z Z (fun _=>Au Z Z Z (A3 rfl Cc Z Z Z)) ?_ | refine AE [55,52] [] Z Z (fun _=>Au Z Z Z (A1 rfl Cc Z Z Z)) ?_ | refine AH [55,52] Z Z (fun _=>Au Z Z Z (A1 rfl Cc Z Z Z)) ?_
  first | refine AE [56,52] [] Z Z (fun _=>Au Z Z Z (AY Z Z A9 rfl)) ?_ | refine AH [56,52] Z Z (fun _=>Au Z Z Z (AY Z Z A9 rfl)) ?_ | refine AE [56,52] [] Z Z (fun _=>Au Z Z Z (AW Z Z Z A9 rfl)) ?_ | refine AH [56,52] Z Z (fun _=>Au Z Z Z (AW Z Z Z A9 rfl)) ?_ | refine AE [56,52] [] Z Z (fun _=>Au Z Z Z (AX Z Z (rfl) rfl A9 rfl)) ?_ | refine AH [56,52] Z Z (fun _=>Au Z Z Z (AX Z Z (rfl) rfl A9 rfl)) ?_
  first | refine AE [57,52] [] Z Z (fun _=>Au Z Z Z (CG rfl (List.length_map ..) Try.underlying49 rfl)) ?_ | refine AH [57,52] Z Z (fun _=>Au Z Z Z (CG rfl (List.length_map ..) Try.underlying49 rfl)) ?_
  first | refine AE [6,52] [] Z Z (fun _=>Au Z Z Z (Aa Z Z)) ?_ | refine AH [6,52] Z Z (fun _=>Au Z Z Z (Aa Z Z)) ?_
  first | refine AE [8,52] [] Z Z (fun _=>Au Z Z Z (Aa Z Z)) ?_ | refine AH [8,52] Z Z (fun _=>Au Z Z Z (Aa Z Z)) ?_
  first | refine AE [59,60,52] [] Z Z (fun _=>Au Z Z Z (BM (k) Z Z (rfl) (Ct hkl) Try.underlying73 rfl Gs rfl)) ?_ | refine AH [59,60,52] Z Z (fun _=>Au Z Z Z (BM (k) Z Z (rfl) (Ct hkl) Try.underlying73 rfl Gs rfl)) ?_ | refine AE [59,60,52] [] Z Z (fun _=>Au Z Z Z (BN (k) Z Z (rfl) (Ct hkl) rfl Try.underlying73 Gs rfl)) ?_ | refine AH [59,60,52] Z Z (fun _=>Au Z Z Z (BN (k) Z Z (rfl) (Ct hkl) rfl Try.underlying73 Gs rfl)) ?_
  first | refine AE [61,52] [] Z Z (fun _=>Au Z Z Z (A2 rfl GT Z Z Z)) ?_ | refine AH [61,52] Z Z (fun _=>Au Z Z Z (A2 rfl GT Z Z Z)) ?_ | refine AE [61,52] [] Z Z (fun _=>Au Z Z Z (A4 rfl GT Z Z Z)) ?_ | refine AH [61,52] Z Z (fun _=>Au Z Z Z (A4 rfl GT Z Z Z)) ?_ | refine AE [61,52] [] Z Z (fun _=>Au Z Z Z (A5 rfl GT Z Z Z)) ?_ | refine AH [61,52] Z Z (fun _=>Au Z Z Z (A5 rfl GT Z Z Z)) ?_ | refine AE [61,52] [] Z Z (fun _=>Au Z Z Z (A3 rfl GT Z Z Z)) ?_ | refine AH [61,52] Z Z (fun _=>Au Z Z Z (A3 rfl GT Z Z Z)) ?_ | refine AE [61,52] [] Z Z (fun _=>Au Z Z Z (A1 rfl GT Z Z Z)) ?_ | refine AH [61,52] Z Z (fun _=>Au Z Z Z (A1 rfl GT Z Z Z)) ?_
  first | refine AE [62,52] [] Z Z (fun _=>Au Z Z Z (AY Z Z A9 rfl)) ?_ | refine AH [62,52] Z Z (fun _=>Au Z Z Z (AY Z Z A9 rfl)) ?_ | refine AE [62,52] [] Z Z (fun _=>Au Z Z Z (AW Z Z Z A9 rfl)) ?_ | refine AH [62,52] Z Z (fun _=>Au Z Z Z (AW Z Z Z A9 rfl)) ?_ | refine AE [62,52] [] Z Z (fun _=>Au Z Z Z (AX Z Z (rfl) rfl A9 rfl)) ?_ | refine AH [62,52] Z Z (fun _=>Au Z Z Z (AX Z Z (rfl) rfl A9 rfl)) ?_
  first | refine AE [63,52] [] Z Z (fun _=>Au Z Z Z (CG rfl (List.length_map ..) Try.underlying49 rfl)) ?_ | refine AH [63,52] Z Z (fun _=>Au Z Z Z (CG rfl (List.length_map ..) Try.underlying49 rfl)) ?_
  refine EL 25 Z Z Z (B6 26 Z Z (Ab Z Z Z ?_))
  first | refine J (IH Z Z Z) ?_ | refine J (IG Z Z Z) ?_ | refine J (Hm Z Z Z) ?_ | refine J (IB Try.underlying3 Z Z Z) ?_ | refine J (ID Try.underlying3 Z Z Z) ?_ | refine J (st_neqN Try.underlying3 Z Z) ?_ | refine J (st_neqPr Try.underlying3 Z Z) ?_ | refine J (st_neqMz Try.underlying3 Z Z) ?_ | refine J (IC Try.underlying3 Z Z Z) ?_ | refine J (st_neqFN Try.underlying3 Z Z) ?_
  refine AF ⟨rfl,?_⟩;refine B6 27 Z Z (J (GR Z Z Z Z) (AF ⟨rfl,?_⟩));refine Es (Dk rfl (by simp) (An (AG (AI (AD Z Z (AF (B9 (Fm (α:=Nat) (fun j=>⟨94,[(5,(.d (DF G))),(6,(.d (DF G))),(8,(.d (natD k))),(9,(.d (natD j)))],[(40,[.multi M])]⟩) (fun j=>j≤G[k].a.length) (fun j=>G[k].a.length - j) (0) (Nat.zero_le _) (BK hF [40] Z Z ⟨rfl,rfl,rfl,rfl,trivial⟩) ?_))))))));rintro j hj;refine AG (AG (AI (AC Z Z (AC Z Z (AC Z Z ?_)))))
  first | refine J (BM (k) Z Z (rfl) (Ct hkl) Try.underlying47 rfl DM rfl) ?_ | refine J (BN (k) Z Z (rfl) (Ct hkl) rfl Try.underlying47 DM rfl) ?_
  first | refine J (A2 rfl Cc Z Z Z) ?_ | refine J (A4 rfl Cc Z Z Z) ?_ | refine J (A5 rfl Cc Z Z Z) ?_ | refine J (A3 rfl Cc Z Z Z) ?_ | refine J (A1 rfl Cc Z Z Z) ?_
  first | refine J (AY Z Z A9 rfl) ?_ | refine J (AW Z Z Z A9 rfl) ?_ | refine J (AX Z Z (rfl) rfl A9 rfl) ?_
  refine J (CG rfl (List.length_map ..) Try.underlying49 rfl) ?_
  first | refine J (Eo Z Z Z) ?_ | refine J (Ep Z Z Z) ?_
  refine AF ?_
  first | refine BG rfl (fun h74=>?_) (fun h74=>?_) | refine BB rfl (fun h74=>?_) (fun h74=>?_)
  ·refine An (AG (B9 (AG ?_)));have hjl:j<G[k].a.length:=H9 h74;refine Fh [[],[],[0,1],[0,1,2],[0,1,2,3],[],[0,1,2,3,4,5],[0,1,2,3,4,5,6],[],[],[8,9],[8,9,10],[8,9,10,11],[],[8,9,10,11,12,13],[8,9,10,11,12,13,14],[0,1,2,3,4,5,6,7,8,9,10,11,12,13,14,15]] mixed rfl (EK ?_)
   first | refine AE [5] [] Z Z (fun _=>AB (Aa Z Z)) ?_ | refine AH [5] Z Z (fun _=>AB (Aa Z Z)) ?_
   first | refine AE [8] [] Z Z (fun _=>AB (Aa Z Z)) ?_ | refine AH [8] Z Z (fun _=>AB (Aa Z Z)) ?_
   first | refine AE [77,78] [] Z Z (fun _=>AB (BM (k) Z Z (rfl) (Ct hkl) Try.underlying47 rfl DM rfl)) ?_ | refine AH [77,78] Z Z (fun _=>AB (BM (k) Z Z (rfl) (Ct hkl) Try.underlying47 rfl DM rfl)) ?_ | refine AE [77,78] [] Z Z (fun _=>AB (BN (k) Z Z (rfl) (Ct hkl) rfl Try.underlying47 DM rfl)) ?_ | refine AH [77,78] Z Z (fun _=>AB (BN (k) Z Z (rfl) (Ct hkl) rfl Try.underlying47 DM rfl)) ?_
   first | refine AE [79] [] Z Z (fun _=>AB (A2 rfl Cc Z Z Z)) ?_ | refine AH [79] Z Z (fun _=>AB (A2 rfl Cc Z Z Z)) ?_ | refine AE [79] [] Z Z (fun _=>AB (A4 rfl Cc Z Z Z)) ?_ | refine AH [79] Z Z (fun _=>AB (A4 rfl Cc Z Z Z)) ?_ | refine AE [79] [] Z Z (fun _=>AB (A5 rfl Cc Z Z Z)) ?_ | refine AH [79] Z Z (fun _=>AB (A5 rfl Cc Z Z Z)) ?_ | refine AE [79] [] Z Z (fun _=>AB (A3 rfl Cc Z Z Z)) ?_ | refine AH [79] Z Z (fun _=>AB (A3 rfl Cc Z Z Z)) ?_ | refine AE [79] [] Z Z (fun _=>AB (A1 rfl Cc Z Z Z)) ?_ | refine AH [79] Z Z (fun _=>AB (A1 rfl Cc Z Z Z)) ?_
   first | refine AE [80] [] Z Z (fun _=>AB (AY Z Z A9 rfl)) ?_ | refine AH [80] Z Z (fun _=>AB (AY Z Z A9 rfl)) ?_ | refine AE [80] [] Z Z (fun _=>AB (AW Z Z Z A9 rfl)) ?_ | refine AH [80] Z Z (fun _=>AB (AW Z Z Z A9 rfl)) ?_ | refine AE [80] [] Z Z (fun _=>AB (AX Z Z (rfl) rfl A9 rfl)) ?_ | refine AH [80] Z Z (fun _=>AB (AX Z Z (rfl) rfl A9 rfl)) ?_
   first | refine AE [9] [] Z Z (fun _=>AB (Aa Z Z)) ?_ | refine AH [9] Z Z (fun _=>AB (Aa Z Z)) ?_
   first | refine AE [81,82] [] Z Z (fun _=>AB (BM (j) Z Z (rfl) (DT hjl) Try.underlying49 rfl DZ rfl)) ?_ | refine AH [81,82] Z Z (fun _=>AB (BM (j) Z Z (rfl) (DT hjl) Try.underlying49 rfl DZ rfl)) ?_ | refine AE [81,82] [] Z Z (fun _=>AB (BN (j) Z Z (rfl) (DT hjl) rfl Try.underlying49 DZ rfl)) ?_ | refine AH [81,82] Z Z (fun _=>AB (BN (j) Z Z (rfl) (DT hjl) rfl Try.underlying49 DZ rfl)) ?_
   first | refine AE [83] [] Z Z (fun _=>AB (AY Z Z B8 rfl)) ?_ | refine AH [83] Z Z (fun _=>AB (AY Z Z B8 rfl)) ?_ | refine AE [83] [] Z Z (fun _=>AB (AW Z Z Z B8 rfl)) ?_ | refine AH [83] Z Z (fun _=>AB (AW Z Z Z B8 rfl)) ?_ | refine AE [83] [] Z Z (fun _=>AB (AX Z Z (rfl) rfl B8 rfl)) ?_ | refine AH [83] Z Z (fun _=>AB (AX Z Z (rfl) rfl B8 rfl)) ?_
   first | refine AE [6] [] Z Z (fun _=>AB (Aa Z Z)) ?_ | refine AH [6] Z Z (fun _=>AB (Aa Z Z)) ?_
   first | refine AE [8] [] Z Z (fun _=>AB (Aa Z Z)) ?_ | refine AH [8] Z Z (fun _=>AB (Aa Z Z)) ?_
   first | refine AE [85,86] [] Z Z (fun _=>AB (BM (k) Z Z (rfl) (Ct hkl) Try.underlying73 rfl Gs rfl)) ?_ | refine AH [85,86] Z Z (fun _=>AB (BM (k) Z Z (rfl) (Ct hkl) Try.underlying73 rfl Gs rfl)) ?_ | refine AE [85,86] [] Z Z (fun _=>AB (BN (k) Z Z (rfl) (Ct hkl) rfl Try.underlying73 Gs rfl)) ?_ | refine AH [85,86] Z Z (fun _=>AB (BN (k) Z Z (rfl) (Ct hkl) rfl Try.underlying73 Gs rfl)) ?_
   first | refine AE [87] [] Z Z (fun _=>AB (A2 rfl GT Z Z Z)) ?_ | refine AH [87] Z Z (fun _=>AB (A2 rfl GT Z Z Z)) ?_ | refine AE [87] [] Z Z (fun _=>AB (A4 rfl GT Z Z Z)) ?_ | refine AH [87] Z Z (fun _=>AB (A4 rfl GT Z Z Z)) ?_ | refine AE [87] [] Z Z (fun _=>AB (A5 rfl GT Z Z Z)) ?_ | refine AH [87] Z Z (fun _=>AB (A5 rfl GT Z Z Z)) ?_ | refine AE [87] [] Z Z (fun _=>AB (A3 rfl GT Z Z Z)) ?_ | refine AH [87] Z Z (fun _=>AB (A3 rfl GT Z Z Z)) ?_ | refine AE [87] [] Z Z (fun _=>AB (A1 rfl GT Z Z Z)) ?_ | refine AH [87] Z Z (fun _=>AB (A1 rfl GT Z Z Z)) ?_
   first | refine AE [88] [] Z Z (fun _=>AB (AY Z Z A9 rfl)) ?_ | refine AH [88] Z Z (fun _=>AB (AY Z Z A9 rfl)) ?_ | refine AE [88] [] Z Z (fun _=>AB (AW Z Z Z A9 rfl)) ?_ | refine AH [88] Z Z (fun _=>AB (AW Z Z Z A9 rfl)) ?_ | refine AE [88] [] Z Z (fun _=>AB (AX Z Z (rfl) rfl A9 rfl)) ?_ | refine AH [88] Z Z (fun _=>AB (AX Z Z (rfl) rfl A9 rfl)) ?_
   first | refine AE [9] [] Z Z (fun _=>AB (Aa Z Z)) ?_ | refine AH [9] Z Z (fun _=>AB (Aa Z Z)) ?_
   first | refine AE [89,90] [] Z Z (fun _=>AB (BM (j) Z Z (rfl) (DT hjl) Try.underlying49 rfl DZ rfl)) ?_ | refine AH [89,90] Z Z (fun _=>AB (BM (j) Z Z (rfl) (DT hjl) Try.underlying49 rfl DZ rfl)) ?_ | refine AE [89,90] [] Z Z (fun _=>AB (BN (j) Z Z (rfl) (DT hjl) rfl Try.underlying49 DZ rfl)) ?_ | refine AH [89,90] Z Z (fun _=>AB (BN (j) Z Z (rfl) (DT hjl) rfl Try.underlying49 DZ rfl)) ?_
   first | refine AE [91] [] Z Z (fun _=>AB (AY Z Z B8 rfl)) ?_ | refine AH [91] Z Z (fun _=>AB (AY Z Z B8 rfl)) ?_ | refine AE [91] [] Z Z (fun _=>AB (AW Z Z Z B8 rfl)) ?_ | refine AH [91] Z Z (fun _=>AB (AW Z Z Z B8 rfl)) ?_ | refine AE [91] [] Z Z (fun _=>AB (AX Z Z (rfl) rfl B8 rfl)) ?_ | refine AH [91] Z Z (fun _=>AB (AX Z Z (rfl) rfl B8 rfl)) ?_
   refine EL 16 Z Z Z (B6 17 Z Z ?_)
   first | refine J (IH Z Z Z) ?_ | refine J (IG Z Z Z) ?_ | refine J (Hm Z Z Z) ?_ | refine J (IB Try.underlying3 Z Z Z) ?_ | refine J (ID Try.underlying3 Z Z Z) ?_ | refine J (st_neqN Try.underlying3 Z Z) ?_ | refine J (st_neqPr Try.underlying3 Z Z) ?_ | refine J (st_neqMz Try.underlying3 Z Z) ?_ | refine J (IC Try.underlying3 Z Z Z) ?_ | refine J (st_neqFN Try.underlying3 Z Z) ?_
   refine AF ⟨rfl,?_⟩;refine Es (Dk rfl (by simp) (An (AI (AC Z Z (J (DA Z Z (IntWalk.i64_in _ (by omega)) rfl) (AD Z Z (AF ?_)))))));exact ⟨j+1,hjl,by omega,BK hF [40] rfl (rfl) ⟨rfl,rfl,rfl,rfl,trivial⟩⟩
  ·refine Eg (AI (AC Z Z (J (DA Z Z (IntWalk.i64_in _ (by omega)) rfl) (AD Z Z (AF ?_)))));exact ⟨k+1,hkl,by omega,BK hF [40] rfl (rfl) ⟨rfl,rfl,rfl,trivial⟩⟩
 ·refine Eg (AG (AI (AD Z Z (AF (Ay ?_)))));exact ⟨_,[40],_,Av rfl,rfl,rfl,rfl,rfl⟩
theorem ML {w:Ws} (hw:Ba w):(groupsW w).length≤1000000∧∀g∈groupsW w,g.m.length≤1000000∧g.a.length≤1000000:=by
 have hfew:=hw.few;have hpn:(parts w).length≤4096:=by unfold parts;rw [List.length_map];exact Nat.le_trans (List.length_filter_le _ _) hfew
 cases ho:ordW w with
 | none=>rw [(Kl ho).1];exact ⟨by simp,fun g hg=>by simp at hg⟩
 | some ord=>
  rw [(Hw ho).1];obtain ⟨hgo,hl⟩:=Ji ho;refine ⟨by rw [FF];omega,fun g hg=>?_⟩;obtain ⟨p,hp,rfl⟩:=List.mem_map.1 hg;have hp:=List.mem_range.1 hp
  constructor
  ·show ((parts w).getD (ord.getD p 0) []).length≤_
   by_cases hi:ord.getD p 0<(parts w).length
   ·have h1:=(EC (I0 hw (List.mem_of_getElem? (Fe hi)))).length_le_of_subset (l₂:=w.R) fun y hy=>((Ka hw hi).1 hy).1;omega
   ·rw [List.getD_eq_getElem?_getD,List.getElem?_eq_none (by omega)];exact Nat.zero_le _
  ·show (EO (depL w) ord (ord.getD p 0) p).length≤_;have:=MW w ord (ord.getD p 0) p;unfold aftT at this;unfold EO;omega
noncomputable def opsW (l:List JM):Ws:=l.foldl (fun w o=>(opW w o).1) ⟨[],[]⟩
theorem OX (l:List JM) (o:JM):opsW (l++ [o])=(opW (opsW l) o).1:=by unfold opsW;rw [List.foldl_append];rfl
theorem HA {l:List JM} {k:Nat} (hk:k<l.length):opsW (l.take (k+1))=(opW (opsW (l.take k)) l[k]).1:=by rw [List.take_succ_eq_append_getElem hk,OX]
theorem P8 (l:List JM):∀k,k≤l.length ->Cv (opsW (l.take k)) k:=by
 intro k
 induction k with
 | zero=>intro _;exact Cv.nil
 | succ k ih=>intro hk;rw [HA (by omega)];exact (ih (by omega)).op _
theorem Od {l:List JM} {k:Nat} (h:k<l.length):(l.map opD)[k]?=some (opD l[k]):=by
 rw [List.getElem?_map,List.getElem?_eq_getElem h];rfl
end Go.Proofs.Ytlmedakidpaeeaa
