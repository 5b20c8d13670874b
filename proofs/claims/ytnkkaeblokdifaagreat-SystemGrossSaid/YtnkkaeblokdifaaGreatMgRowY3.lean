/- Proved here: systemGross_holds, the given statement Rows.SystemGrossSaid: the law girotop.SystemGross returns true and does not panic, at every input that the statement speaks of; no condition beyond the statement. -/
/- 'girotop.SystemGross': for every input the law returns true, and each argument reads behind the call as it read before. No condition. -/
import Derived.Test.YtnkkaeblokdifaaGreatMg25
namespace Go.Proofs.YtnkkaeblokdifaaGreat
open Go.RowKit
set_option maxRecDepth 100000 in
set_option maxHeartbeats 1000000 in
theorem lawY3_p (p:Prb):AU Tryz.prog 4 [.d (Cc p)] (.raw (.bool true)):=by
 have hk:=Xz;have hs:=small_p p
 by_cases hf:Sml p
 ·rw [decide_eq_true hf] at hs;have g1:=hf.1;have g2:=hf.2.1;have g3:=hf.2.2;have c1:=own_p p hf;have hw:=few_sml hf
  by_cases hp:Ao p=0
  ·have cl:=TB p hw hp;have cg:=YO p hw hp;have hsub:=TK hp hw
   have hLl:(largeS p).length≤12:=by
    have:=sub_len (O8 hp).1 (WP (KW hp).2.1) (O8 hp).2;rw [List.length_map] at this;omega
   have hGl:(grossS p).length≤30:=by have:=Qa (ros:=CX p) (its:=ordP p) (ordP p).length fun _=>true;have h2:=EK p;unfold grossS;omega
   obtain ⟨G,hG⟩:∃G,grossS p=G:=⟨_,rfl⟩
   obtain ⟨L,hL⟩:∃L,largeS p=L:=⟨_,rfl⟩
   rw [hG] at cg hsub hGl;rw [hL] at cl hsub hLl;refine B2 Tryz.func4 Z Z Tryz.ntmps4 Z Z Z fun F hF=>?_;refine AF (AJ (U (C5 1 Z Z Z Z Z Z Z) (AD Z Z (AG (AF (AF (AJ (J (B1 (hk) Z Z) ?_))))))))
   first | refine J (GZ Z Z) ?_ | refine J (GP Z Z) ?_
   refine AC Z Z (Kf 16 rfl (rfl) (A9 Z Z Z ?_))
   first | refine J (Av Z Z In rfl) ?_ | refine J (Aw Z Z In Z Z Z) ?_ | refine J (Ax Z Z (rfl) rfl In rfl) ?_
   refine A9 Z Z Z (J (B1 (hs) Z Z) (A9 Z Z Z ?_))
   first | refine J (GZ Z Z) ?_ | refine J (GP Z Z) ?_
   refine J (EC Z Z Z Z) (AG ?_);refine Fs rfl (rfl) (Ak (AF (AF (AJ (AD Z Z (AG (Al (DG (α:=Nat) (fun k=>⟨109,[(1,(.ptr 1 0 0)),(3,(.d (AH (k:Int))))],[(1,[HV 25 p])]⟩) (fun k=>k≤p.ro.length) (fun k=>p.ro.length - k) (0) (Nat.zero_le _) (BA hF [1] Z Z ⟨rfl,rfl,trivial⟩) ?_))))))));intro k hk0;refine AF (AF (AJ (AC Z Z ?_)))
   first | refine J (AM rfl DN Z Z Z) ?_ | refine J (AO rfl DN Z Z Z) ?_ | refine J (AP rfl DN Z Z Z) ?_ | refine J (AN rfl DN Z Z Z) ?_ | refine J (AL rfl DN Z Z Z) ?_
   first | refine J (AY Z Z C8 rfl) ?_ | refine J (AW Z Z Z C8 rfl) ?_ | refine J (AX Z Z (rfl) rfl C8 rfl) ?_
   refine J (C9 rfl (List.length_map ..) Tryz.underlying22 rfl) ?_
   first | refine J (CD Z Z Z) ?_ | refine J (CE Z Z Z) ?_
   refine AG ?_
   first | refine Ay rfl (fun h26=>?_) (fun h26=>?_) | refine At rfl (fun h26=>?_) (fun h26=>?_)
   ·have hk1:k<p.ro.length:=DA h26;refine Ak (AF (Al (AF (AJ ?_))))
    first | refine J (AM rfl DN Z Z Z) ?_ | refine J (AO rfl DN Z Z Z) ?_ | refine J (AP rfl DN Z Z Z) ?_ | refine J (AN rfl DN Z Z Z) ?_ | refine J (AL rfl DN Z Z Z) ?_
    first | refine J (AY Z Z C8 rfl) ?_ | refine J (AW Z Z Z C8 rfl) ?_ | refine J (AX Z Z (rfl) rfl C8 rfl) ?_
    refine AC Z Z ?_
    first | refine J (CT (k) Z Z (rfl) (A0 hk1) Tryz.underlying22 rfl IX rfl) ?_ | refine J (CU (k) Z Z (rfl) (A0 hk1) rfl Tryz.underlying22 IX rfl) ?_
    first | refine J (AM rfl JR Z Z Z) ?_ | refine J (AO rfl JR Z Z Z) ?_ | refine J (AP rfl JR Z Z Z) ?_ | refine J (AN rfl JR Z Z Z) ?_ | refine J (AL rfl JR Z Z Z) ?_
    first | refine J (AY Z Z BI rfl) ?_ | refine J (AW Z Z Z BI rfl) ?_ | refine J (AX Z Z (rfl) rfl BI rfl) ?_
    first | refine J (Ca Z Z Z) ?_ | refine J (SB Z Z Z) ?_
    refine AC Z Z ?_
    first | refine I5 36 rfl (fun h36=>?_) (fun h36=>?_) | refine Hw 36 rfl (fun h36=>?_) (fun h36=>?_)
    ·refine A8 Z Z Z Z (A8 Z Z Z Z (A8 Z Z Z Z (A8 Z Z Z Z (A8 Z Z Z Z (A8 Z Z Z Z ?_)))));refine A8 Z Z Z Z (J (DX Z Z Z Z) (AG (EB Z Z (AF (AJ (AD Z Z (AG (Ae ?_))))))));exact ⟨_,[],[],Aa rfl,rfl,rfl,rfl,rfl⟩
    ·refine A9 Z Z Z ?_
     first | refine J (AM rfl DN Z Z Z) ?_ | refine J (AO rfl DN Z Z Z) ?_ | refine J (AP rfl DN Z Z Z) ?_ | refine J (AN rfl DN Z Z Z) ?_ | refine J (AL rfl DN Z Z Z) ?_
     refine A9 Z Z Z ?_
     first | refine J (AY Z Z C8 rfl) ?_ | refine J (AW Z Z Z C8 rfl) ?_ | refine J (AX Z Z (rfl) rfl C8 rfl) ?_
     refine A9 Z Z Z (AC Z Z (A9 Z Z Z ?_))
     first | refine J (CT (k) Z Z (rfl) (A0 hk1) Tryz.underlying22 rfl IX rfl) ?_ | refine J (CU (k) Z Z (rfl) (A0 hk1) rfl Tryz.underlying22 IX rfl) ?_
     refine A9 Z Z Z ?_
     first | refine J (AM rfl JR Z Z Z) ?_ | refine J (AO rfl JR Z Z Z) ?_ | refine J (AP rfl JR Z Z Z) ?_ | refine J (AN rfl JR Z Z Z) ?_ | refine J (AL rfl JR Z Z Z) ?_
     refine A9 Z Z Z ?_
     first | refine J (AY Z Z BI rfl) ?_ | refine J (AW Z Z Z BI rfl) ?_ | refine J (AX Z Z (rfl) rfl BI rfl) ?_
     refine A9 Z Z Z ?_
     first | refine J (CD Z Z Z) ?_ | refine J (CE Z Z Z) ?_
     refine J (EC Z Z Z Z) (AG ?_)
     first | refine Ay rfl (fun h44=>?_) (fun h44=>?_) | refine At rfl (fun h44=>?_) (fun h44=>?_)
     ·refine AF (AJ (AD Z Z (AG (Ae ?_))));exact ⟨_,[],[],Aa rfl,rfl,rfl,rfl,rfl⟩
     ·refine Ak (AJ (AC Z Z (J (Bi Z Z (IntWalk.i64_in _ (by omega)) rfl) (AD Z Z (AG ?_)))));exact ⟨k+1,hk1,by omega,BA hF [1] rfl (rfl) ⟨rfl,rfl,trivial⟩⟩
   ·refine CW (AF (AJ ?_))
    first | refine J (Av Z Z In rfl) ?_ | refine J (Aw Z Z In Z Z Z) ?_ | refine J (Ax Z Z (rfl) rfl In rfl) ?_
    refine J (B1 (c1) Z Z) (U (DO 2 SM Z Z Z Z) ?_);refine U (CF Z Z Z Z Z Z Z sz31) (AG (AF (AF (AJ (AD Z Z (AG (Al (DG (α:=Nat) (fun i=>⟨109,[(4,(.ptr 2 0 0)),(5,(.d (AH (i:Int))))],[(2,[HV 31 p])]⟩) (fun i=>i≤p.it.length) (fun i=>p.it.length - i) (0) (Nat.zero_le _) (BA hF [2] Z Z ⟨rfl,rfl,trivial⟩) ?_))))))));intro i hi0;refine AF (AF (AJ (AC Z Z ?_)))
    first | refine J (AM rfl CP Z Z Z) ?_ | refine J (AO rfl CP Z Z Z) ?_ | refine J (AP rfl CP Z Z Z) ?_ | refine J (AN rfl CP Z Z Z) ?_ | refine J (AL rfl CP Z Z Z) ?_
    first | refine J (AY Z Z Bh rfl) ?_ | refine J (AW Z Z Z Bh rfl) ?_ | refine J (AX Z Z (rfl) rfl Bh rfl) ?_
    refine J (C9 rfl (List.length_map ..) Tryz.underlying29 rfl) ?_
    first | refine J (CD Z Z Z) ?_ | refine J (CE Z Z Z) ?_
    refine AG ?_
    first | refine Ay rfl (fun h51=>?_) (fun h51=>?_) | refine At rfl (fun h51=>?_) (fun h51=>?_)
    ·have hi1:i<p.it.length:=DA h51;refine Ak (AF (Al (AF (AJ ?_))))
     first | refine J (AM rfl CP Z Z Z) ?_ | refine J (AO rfl CP Z Z Z) ?_ | refine J (AP rfl CP Z Z Z) ?_ | refine J (AN rfl CP Z Z Z) ?_ | refine J (AL rfl CP Z Z Z) ?_
     first | refine J (AY Z Z Bh rfl) ?_ | refine J (AW Z Z Z Bh rfl) ?_ | refine J (AX Z Z (rfl) rfl Bh rfl) ?_
     refine AC Z Z ?_
     first | refine J (CT (i) Z Z (rfl) (A0 hi1) Tryz.underlying29 rfl C6 rfl) ?_ | refine J (CU (i) Z Z (rfl) (A0 hi1) rfl Tryz.underlying29 C6 rfl) ?_
     first | refine J (Av Z Z Af rfl) ?_ | refine J (Aw Z Z Af Z Z Z) ?_ | refine J (Ax Z Z (rfl) rfl Af rfl) ?_
     have hx:=g3 _ (List.getElem_mem hi1);have hdl:=KK (hw.x _ (List.getElem_mem hi1));refine J (B1 (KN p.it[i] (by omega) (by omega) (by omega)) Z Z) (AC Z Z ?_)
     first | refine J (B6 Z Z Z) ?_ | refine J (B7 Z Z Z) ?_
     first | refine J (B6 Z Z Z) ?_ | refine J (B7 Z Z Z) ?_
     refine AD Z Z (AD Z Z (AG (AF (AJ (AD Z Z (AG (Al (DG (α:=Nat) (fun j=>⟨109,[(4,(.ptr 2 0 0)),(5,(.d (AH (i:Int)))),(6,(.d (.sl none ((dltS p.it[i]).map NM)))),(8,(.d (AH (j:Int))))],[(2,[HV 31 p])]⟩) (fun j=>j≤(dltS p.it[i]).length) (fun j=>(dltS p.it[i]).length - j) (0) (Nat.zero_le _) (BA hF [2] Z Z ⟨rfl,rfl,rfl,rfl,trivial⟩) ?_))))))));intro j hj0;refine AF (AF (AJ (AC Z Z (AC Z Z (J (C9 rfl (List.length_map ..) Tryz.underlying44 rfl) ?_)))))
     first | refine J (CD Z Z Z) ?_ | refine J (CE Z Z Z) ?_
     refine AG ?_
     first | refine Ay rfl (fun h66=>?_) (fun h66=>?_) | refine At rfl (fun h66=>?_) (fun h66=>?_)
     ·have hj1:j<(dltS p.it[i]).length:=DA h66;refine Ak (AF (Al (AF (AJ (AC Z Z (AC Z Z ?_))))))
      first | refine J (CT (j) Z Z (rfl) (A0 hj1) Tryz.underlying44 rfl Eo rfl) ?_ | refine J (CU (j) Z Z (rfl) (A0 hj1) rfl Tryz.underlying44 Eo rfl) ?_
      first | refine J (AM rfl EW Z Z Z) ?_ | refine J (AO rfl EW Z Z Z) ?_ | refine J (AP rfl EW Z Z Z) ?_ | refine J (AN rfl EW Z Z Z) ?_ | refine J (AL rfl EW Z Z Z) ?_
      first | refine J (AY Z Z BI rfl) ?_ | refine J (AW Z Z Z BI rfl) ?_ | refine J (AX Z Z (rfl) rfl BI rfl) ?_
      first | refine J (Ca Z Z Z) ?_ | refine J (SB Z Z Z) ?_
      refine AC Z Z ?_
      first | refine I5 75 rfl (fun h75=>?_) (fun h75=>?_) | refine Hw 75 rfl (fun h75=>?_) (fun h75=>?_)
      ·refine A8 Z Z Z Z (A8 Z Z Z Z (A8 Z Z Z Z (A8 Z Z Z Z (A8 Z Z Z Z ?_))));refine A8 Z Z Z Z (J (DX Z Z Z Z) (AG (EB Z Z (AF (AJ (AD Z Z (AG (Ae ?_))))))));exact ⟨_,[],[],Aa rfl,rfl,rfl,rfl,rfl⟩
      ·refine A9 Z Z Z (AC Z Z (A9 Z Z Z (AC Z Z (A9 Z Z Z ?_))))
       first | refine J (CT (j) Z Z (rfl) (A0 hj1) Tryz.underlying44 rfl Eo rfl) ?_ | refine J (CU (j) Z Z (rfl) (A0 hj1) rfl Tryz.underlying44 Eo rfl) ?_
       refine A9 Z Z Z ?_
       first | refine J (AM rfl EW Z Z Z) ?_ | refine J (AO rfl EW Z Z Z) ?_ | refine J (AP rfl EW Z Z Z) ?_ | refine J (AN rfl EW Z Z Z) ?_ | refine J (AL rfl EW Z Z Z) ?_
       refine A9 Z Z Z ?_
       first | refine J (AY Z Z BI rfl) ?_ | refine J (AW Z Z Z BI rfl) ?_ | refine J (AX Z Z (rfl) rfl BI rfl) ?_
       refine A9 Z Z Z ?_
       first | refine J (CD Z Z Z) ?_ | refine J (CE Z Z Z) ?_
       refine J (EC Z Z Z Z) (AG ?_)
       first | refine Ay rfl (fun h82=>?_) (fun h82=>?_) | refine At rfl (fun h82=>?_) (fun h82=>?_)
       ·refine AF (AJ (AD Z Z (AG (Ae ?_))));exact ⟨_,[],[],Aa rfl,rfl,rfl,rfl,rfl⟩
       ·refine Ak (AJ (AC Z Z (J (Bi Z Z (IntWalk.i64_in _ (by omega)) rfl) (AD Z Z (AG ?_)))));exact ⟨j+1,hj1,by omega,BA hF [2] rfl (rfl) ⟨rfl,rfl,rfl,rfl,trivial⟩⟩
     ·refine CW (AJ (AC Z Z (J (Bi Z Z (IntWalk.i64_in _ (by omega)) rfl) (AD Z Z (AG ?_)))));exact ⟨i+1,hi1,by omega,BA hF [2] rfl (rfl) ⟨rfl,rfl,trivial⟩⟩
    ·refine CW (AF (AJ ?_))
     first | refine J (Av Z Z A4 rfl) ?_ | refine J (Aw Z Z A4 Z Z Z) ?_ | refine J (Ax Z Z (rfl) rfl A4 rfl) ?_
     refine J (B1 (cg) Z Z) (AC Z Z ?_)
     first | refine J (B6 Z Z Z) ?_ | refine J (B7 Z Z Z) ?_
     first | refine J (B6 Z Z Z) ?_ | refine J (B7 Z Z Z) ?_
     refine AD Z Z (AD Z Z (AG (AF (AJ ?_))))
     first | refine J (Av Z Z A4 rfl) ?_ | refine J (Aw Z Z A4 Z Z Z) ?_ | refine J (Ax Z Z (rfl) rfl A4 rfl) ?_
     refine J (B1 (cl) Z Z) (AC Z Z ?_)
     first | refine J (B6 Z Z Z) ?_ | refine J (B7 Z Z Z) ?_
     first | refine J (B6 Z Z Z) ?_ | refine J (B7 Z Z Z) ?_
     refine AD Z Z (AD Z Z (AG (AF (AF (AJ (AC Z Z (AC Z Z ?_)))))))
     first | refine J (Fa Z Z Z) ?_ | refine J (F9 Z Z Z) ?_ | refine J (FM Z Z Z) ?_ | refine J (Fb Tryz.underlying34 Z Z Z) ?_ | refine J (Fd Tryz.underlying34 Z Z Z) ?_ | refine J (st_neqN Tryz.underlying34 Z Z) ?_ | refine J (Fc Tryz.underlying34 Z Z Z) ?_ | refine J (st_neqFN Tryz.underlying34 Z Z) ?_
     refine AG ?_;refine Fs rfl (rfl) (Ak (AF (AF (AJ (AD Z Z (AG (Al (DG (α:=Nat) (fun k=>⟨109,[(9,(.d (.sl none (G.map AH)))),(11,(.d (.sl none (L.map AH)))),(13,(.d (AH (k:Int))))],[]⟩) (fun k=>k≤G.length) (fun k=>G.length - k) (0) (Nat.zero_le _) (BA hF [] Z Z ⟨rfl,rfl,rfl,trivial⟩) ?_))))))));intro k hk0;refine AF (AF (AJ (AC Z Z (AC Z Z (J (C9 rfl (List.length_map ..) Tryz.underlying33 rfl) ?_)))))
     first | refine J (CD Z Z Z) ?_ | refine J (CE Z Z Z) ?_
     refine AG ?_
     first | refine Ay rfl (fun h99=>?_) (fun h99=>?_) | refine At rfl (fun h99=>?_) (fun h99=>?_)
     ·refine Ak (AF (Al (AF ?_)));have hkl:k<G.length:=DA h99;refine AJ (AC Z Z (AC Z Z (AC Z Z ?_)))
      first | refine J (CT (k) Z Z (rfl) (A0 hkl) Tryz.underlying33 rfl Ep rfl) ?_ | refine J (CU (k) Z Z (rfl) (A0 hkl) rfl Tryz.underlying33 Ep rfl) ?_
      first | refine J (AY Z Z Ab rfl) ?_ | refine J (AW Z Z Z Ab rfl) ?_ | refine J (AX Z Z (rfl) rfl Ab rfl) ?_
      refine J (B1 (hasS_p L G[k] (by omega)) Z Z) ?_
      first | refine J (GZ Z Z) ?_ | refine J (GP Z Z) ?_
      refine AG (Fs rfl ((decide_eq_false fun h=>h (hsub _ (List.getElem_mem hkl)))) (Ak (AJ (AC Z Z (J (Bi Z Z (IntWalk.i64_in _ (by omega)) rfl) (AD Z Z (AG ?_)))))));exact ⟨k+1,hkl,by omega,BA hF [] rfl (rfl) ⟨rfl,rfl,rfl,trivial⟩⟩
     ·refine CW (AF (AJ (AD Z Z (AG (Ae ?_)))));exact ⟨_,[],[],Aa rfl,rfl,rfl,rfl,rfl⟩
  ·have cl:=RQ p hw hp;have cg:=Vo p hw hp;refine B2 Tryz.func4 Z Z Tryz.ntmps4 Z Z Z fun F hF=>?_;refine AF (AJ (U (C5 1 Z Z Z Z Z Z Z) (AD Z Z (AG (AF (AF (AJ (J (B1 (hk) Z Z) ?_))))))))
   first | refine J (GZ Z Z) ?_ | refine J (GP Z Z) ?_
   refine AC Z Z (Kf 16 rfl (rfl) (A9 Z Z Z ?_))
   first | refine J (Av Z Z In rfl) ?_ | refine J (Aw Z Z In Z Z Z) ?_ | refine J (Ax Z Z (rfl) rfl In rfl) ?_
   refine A9 Z Z Z (J (B1 (hs) Z Z) (A9 Z Z Z ?_))
   first | refine J (GZ Z Z) ?_ | refine J (GP Z Z) ?_
   refine J (EC Z Z Z Z) (AG ?_);refine Fs rfl (rfl) (Ak (AF (AF (AJ (AD Z Z (AG (Al (DG (α:=Nat) (fun k=>⟨109,[(1,(.ptr 1 0 0)),(3,(.d (AH (k:Int))))],[(1,[HV 25 p])]⟩) (fun k=>k≤p.ro.length) (fun k=>p.ro.length - k) (0) (Nat.zero_le _) (BA hF [1] Z Z ⟨rfl,rfl,trivial⟩) ?_))))))));intro k hk0;refine AF (AF (AJ (AC Z Z ?_)))
   first | refine J (AM rfl DN Z Z Z) ?_ | refine J (AO rfl DN Z Z Z) ?_ | refine J (AP rfl DN Z Z Z) ?_ | refine J (AN rfl DN Z Z Z) ?_ | refine J (AL rfl DN Z Z Z) ?_
   first | refine J (AY Z Z C8 rfl) ?_ | refine J (AW Z Z Z C8 rfl) ?_ | refine J (AX Z Z (rfl) rfl C8 rfl) ?_
   refine J (C9 rfl (List.length_map ..) Tryz.underlying22 rfl) ?_
   first | refine J (CD Z Z Z) ?_ | refine J (CE Z Z Z) ?_
   refine AG ?_
   first | refine Ay rfl (fun h26=>?_) (fun h26=>?_) | refine At rfl (fun h26=>?_) (fun h26=>?_)
   ·have hk1:k<p.ro.length:=DA h26;refine Ak (AF (Al (AF (AJ ?_))))
    first | refine J (AM rfl DN Z Z Z) ?_ | refine J (AO rfl DN Z Z Z) ?_ | refine J (AP rfl DN Z Z Z) ?_ | refine J (AN rfl DN Z Z Z) ?_ | refine J (AL rfl DN Z Z Z) ?_
    first | refine J (AY Z Z C8 rfl) ?_ | refine J (AW Z Z Z C8 rfl) ?_ | refine J (AX Z Z (rfl) rfl C8 rfl) ?_
    refine AC Z Z ?_
    first | refine J (CT (k) Z Z (rfl) (A0 hk1) Tryz.underlying22 rfl IX rfl) ?_ | refine J (CU (k) Z Z (rfl) (A0 hk1) rfl Tryz.underlying22 IX rfl) ?_
    first | refine J (AM rfl JR Z Z Z) ?_ | refine J (AO rfl JR Z Z Z) ?_ | refine J (AP rfl JR Z Z Z) ?_ | refine J (AN rfl JR Z Z Z) ?_ | refine J (AL rfl JR Z Z Z) ?_
    first | refine J (AY Z Z BI rfl) ?_ | refine J (AW Z Z Z BI rfl) ?_ | refine J (AX Z Z (rfl) rfl BI rfl) ?_
    first | refine J (Ca Z Z Z) ?_ | refine J (SB Z Z Z) ?_
    refine AC Z Z ?_
    first | refine I5 36 rfl (fun h36=>?_) (fun h36=>?_) | refine Hw 36 rfl (fun h36=>?_) (fun h36=>?_)
    ·refine A8 Z Z Z Z (A8 Z Z Z Z (A8 Z Z Z Z (A8 Z Z Z Z (A8 Z Z Z Z (A8 Z Z Z Z ?_)))));refine A8 Z Z Z Z (J (DX Z Z Z Z) (AG (EB Z Z (AF (AJ (AD Z Z (AG (Ae ?_))))))));exact ⟨_,[],[],Aa rfl,rfl,rfl,rfl,rfl⟩
    ·refine A9 Z Z Z ?_
     first | refine J (AM rfl DN Z Z Z) ?_ | refine J (AO rfl DN Z Z Z) ?_ | refine J (AP rfl DN Z Z Z) ?_ | refine J (AN rfl DN Z Z Z) ?_ | refine J (AL rfl DN Z Z Z) ?_
     refine A9 Z Z Z ?_
     first | refine J (AY Z Z C8 rfl) ?_ | refine J (AW Z Z Z C8 rfl) ?_ | refine J (AX Z Z (rfl) rfl C8 rfl) ?_
     refine A9 Z Z Z (AC Z Z (A9 Z Z Z ?_))
     first | refine J (CT (k) Z Z (rfl) (A0 hk1) Tryz.underlying22 rfl IX rfl) ?_ | refine J (CU (k) Z Z (rfl) (A0 hk1) rfl Tryz.underlying22 IX rfl) ?_
     refine A9 Z Z Z ?_
     first | refine J (AM rfl JR Z Z Z) ?_ | refine J (AO rfl JR Z Z Z) ?_ | refine J (AP rfl JR Z Z Z) ?_ | refine J (AN rfl JR Z Z Z) ?_ | refine J (AL rfl JR Z Z Z) ?_
     refine A9 Z Z Z ?_
     first | refine J (AY Z Z BI rfl) ?_ | refine J (AW Z Z Z BI rfl) ?_ | refine J (AX Z Z (rfl) rfl BI rfl) ?_
     refine A9 Z Z Z ?_
     first | refine J (CD Z Z Z) ?_ | refine J (CE Z Z Z) ?_
     refine J (EC Z Z Z Z) (AG ?_)
     first | refine Ay rfl (fun h44=>?_) (fun h44=>?_) | refine At rfl (fun h44=>?_) (fun h44=>?_)
     ·refine AF (AJ (AD Z Z (AG (Ae ?_))));exact ⟨_,[],[],Aa rfl,rfl,rfl,rfl,rfl⟩
     ·refine Ak (AJ (AC Z Z (J (Bi Z Z (IntWalk.i64_in _ (by omega)) rfl) (AD Z Z (AG ?_)))));exact ⟨k+1,hk1,by omega,BA hF [1] rfl (rfl) ⟨rfl,rfl,trivial⟩⟩
   ·refine CW (AF (AJ ?_))
    first | refine J (Av Z Z In rfl) ?_ | refine J (Aw Z Z In Z Z Z) ?_ | refine J (Ax Z Z (rfl) rfl In rfl) ?_
    refine J (B1 (c1) Z Z) (U (DO 2 SM Z Z Z Z) ?_);refine U (CF Z Z Z Z Z Z Z sz31) (AG (AF (AF (AJ (AD Z Z (AG (Al (DG (α:=Nat) (fun i=>⟨109,[(4,(.ptr 2 0 0)),(5,(.d (AH (i:Int))))],[(2,[HV 31 p])]⟩) (fun i=>i≤p.it.length) (fun i=>p.it.length - i) (0) (Nat.zero_le _) (BA hF [2] Z Z ⟨rfl,rfl,trivial⟩) ?_))))))));intro i hi0;refine AF (AF (AJ (AC Z Z ?_)))
    first | refine J (AM rfl CP Z Z Z) ?_ | refine J (AO rfl CP Z Z Z) ?_ | refine J (AP rfl CP Z Z Z) ?_ | refine J (AN rfl CP Z Z Z) ?_ | refine J (AL rfl CP Z Z Z) ?_
    first | refine J (AY Z Z Bh rfl) ?_ | refine J (AW Z Z Z Bh rfl) ?_ | refine J (AX Z Z (rfl) rfl Bh rfl) ?_
    refine J (C9 rfl (List.length_map ..) Tryz.underlying29 rfl) ?_
    first | refine J (CD Z Z Z) ?_ | refine J (CE Z Z Z) ?_
    refine AG ?_
    first | refine Ay rfl (fun h51=>?_) (fun h51=>?_) | refine At rfl (fun h51=>?_) (fun h51=>?_)
    ·have hi1:i<p.it.length:=DA h51;refine Ak (AF (Al (AF (AJ ?_))))
     first | refine J (AM rfl CP Z Z Z) ?_ | refine J (AO rfl CP Z Z Z) ?_ | refine J (AP rfl CP Z Z Z) ?_ | refine J (AN rfl CP Z Z Z) ?_ | refine J (AL rfl CP Z Z Z) ?_
     first | refine J (AY Z Z Bh rfl) ?_ | refine J (AW Z Z Z Bh rfl) ?_ | refine J (AX Z Z (rfl) rfl Bh rfl) ?_
     refine AC Z Z ?_
     first | refine J (CT (i) Z Z (rfl) (A0 hi1) Tryz.underlying29 rfl C6 rfl) ?_ | refine J (CU (i) Z Z (rfl) (A0 hi1) rfl Tryz.underlying29 C6 rfl) ?_
     first | refine J (Av Z Z Af rfl) ?_ | refine J (Aw Z Z Af Z Z Z) ?_ | refine J (Ax Z Z (rfl) rfl Af rfl) ?_
     have hx:=g3 _ (List.getElem_mem hi1);have hdl:=KK (hw.x _ (List.getElem_mem hi1));refine J (B1 (KN p.it[i] (by omega) (by omega) (by omega)) Z Z) (AC Z Z ?_)
     first | refine J (B6 Z Z Z) ?_ | refine J (B7 Z Z Z) ?_
     first | refine J (B6 Z Z Z) ?_ | refine J (B7 Z Z Z) ?_
     refine AD Z Z (AD Z Z (AG (AF (AJ (AD Z Z (AG (Al (DG (α:=Nat) (fun j=>⟨109,[(4,(.ptr 2 0 0)),(5,(.d (AH (i:Int)))),(6,(.d (.sl none ((dltS p.it[i]).map NM)))),(8,(.d (AH (j:Int))))],[(2,[HV 31 p])]⟩) (fun j=>j≤(dltS p.it[i]).length) (fun j=>(dltS p.it[i]).length - j) (0) (Nat.zero_le _) (BA hF [2] Z Z ⟨rfl,rfl,rfl,rfl,trivial⟩) ?_))))))));intro j hj0;refine AF (AF (AJ (AC Z Z (AC Z Z (J (C9 rfl (List.length_map ..) Tryz.underlying44 rfl) ?_)))))
     first | refine J (CD Z Z Z) ?_ | refine J (CE Z Z Z) ?_
     refine AG ?_
     first | refine Ay rfl (fun h66=>?_) (fun h66=>?_) | refine At rfl (fun h66=>?_) (fun h66=>?_)
     ·have hj1:j<(dltS p.it[i]).length:=DA h66;refine Ak (AF (Al (AF (AJ (AC Z Z (AC Z Z ?_))))))
      first | refine J (CT (j) Z Z (rfl) (A0 hj1) Tryz.underlying44 rfl Eo rfl) ?_ | refine J (CU (j) Z Z (rfl) (A0 hj1) rfl Tryz.underlying44 Eo rfl) ?_
      first | refine J (AM rfl EW Z Z Z) ?_ | refine J (AO rfl EW Z Z Z) ?_ | refine J (AP rfl EW Z Z Z) ?_ | refine J (AN rfl EW Z Z Z) ?_ | refine J (AL rfl EW Z Z Z) ?_
      first | refine J (AY Z Z BI rfl) ?_ | refine J (AW Z Z Z BI rfl) ?_ | refine J (AX Z Z (rfl) rfl BI rfl) ?_
      first | refine J (Ca Z Z Z) ?_ | refine J (SB Z Z Z) ?_
      refine AC Z Z ?_
      first | refine I5 75 rfl (fun h75=>?_) (fun h75=>?_) | refine Hw 75 rfl (fun h75=>?_) (fun h75=>?_)
      ·refine A8 Z Z Z Z (A8 Z Z Z Z (A8 Z Z Z Z (A8 Z Z Z Z (A8 Z Z Z Z ?_))));refine A8 Z Z Z Z (J (DX Z Z Z Z) (AG (EB Z Z (AF (AJ (AD Z Z (AG (Ae ?_))))))));exact ⟨_,[],[],Aa rfl,rfl,rfl,rfl,rfl⟩
      ·refine A9 Z Z Z (AC Z Z (A9 Z Z Z (AC Z Z (A9 Z Z Z ?_))))
       first | refine J (CT (j) Z Z (rfl) (A0 hj1) Tryz.underlying44 rfl Eo rfl) ?_ | refine J (CU (j) Z Z (rfl) (A0 hj1) rfl Tryz.underlying44 Eo rfl) ?_
       refine A9 Z Z Z ?_
       first | refine J (AM rfl EW Z Z Z) ?_ | refine J (AO rfl EW Z Z Z) ?_ | refine J (AP rfl EW Z Z Z) ?_ | refine J (AN rfl EW Z Z Z) ?_ | refine J (AL rfl EW Z Z Z) ?_
       refine A9 Z Z Z ?_
       first | refine J (AY Z Z BI rfl) ?_ | refine J (AW Z Z Z BI rfl) ?_ | refine J (AX Z Z (rfl) rfl BI rfl) ?_
       refine A9 Z Z Z ?_
       first | refine J (CD Z Z Z) ?_ | refine J (CE Z Z Z) ?_
       refine J (EC Z Z Z Z) (AG ?_)
       first | refine Ay rfl (fun h82=>?_) (fun h82=>?_) | refine At rfl (fun h82=>?_) (fun h82=>?_)
       ·refine AF (AJ (AD Z Z (AG (Ae ?_))));exact ⟨_,[],[],Aa rfl,rfl,rfl,rfl,rfl⟩
       ·refine Ak (AJ (AC Z Z (J (Bi Z Z (IntWalk.i64_in _ (by omega)) rfl) (AD Z Z (AG ?_)))));exact ⟨j+1,hj1,by omega,BA hF [2] rfl (rfl) ⟨rfl,rfl,rfl,rfl,trivial⟩⟩
     ·refine CW (AJ (AC Z Z (J (Bi Z Z (IntWalk.i64_in _ (by omega)) rfl) (AD Z Z (AG ?_)))));exact ⟨i+1,hi1,by omega,BA hF [2] rfl (rfl) ⟨rfl,rfl,trivial⟩⟩
    ·refine CW (AF (AJ ?_))
     first | refine J (Av Z Z A4 rfl) ?_ | refine J (Aw Z Z A4 Z Z Z) ?_ | refine J (Ax Z Z (rfl) rfl A4 rfl) ?_
     refine J (B1 (cg) Z Z) (AC Z Z ?_)
     first | refine J (B6 Z Z Z) ?_ | refine J (B7 Z Z Z) ?_
     first | refine J (B6 Z Z Z) ?_ | refine J (B7 Z Z Z) ?_
     refine AD Z Z (AD Z Z (AG (AF (AJ ?_))))
     first | refine J (Av Z Z A4 rfl) ?_ | refine J (Aw Z Z A4 Z Z Z) ?_ | refine J (Ax Z Z (rfl) rfl A4 rfl) ?_
     refine J (B1 (cl) Z Z) (AC Z Z ?_)
     first | refine J (B6 Z Z Z) ?_ | refine J (B7 Z Z Z) ?_
     first | refine J (B6 Z Z Z) ?_ | refine J (B7 Z Z Z) ?_
     refine AD Z Z (AD Z Z (AG (AF (AF (AJ (AC Z Z (AC Z Z ?_)))))))
     first | refine J (Fa Z Z Z) ?_ | refine J (F9 Z Z Z) ?_ | refine J (FM Z Z Z) ?_ | refine J (Fb Tryz.underlying34 Z Z Z) ?_ | refine J (Fd Tryz.underlying34 Z Z Z) ?_ | refine J (st_neqN Tryz.underlying34 Z Z) ?_ | refine J (Fc Tryz.underlying34 Z Z Z) ?_ | refine J (st_neqFN Tryz.underlying34 Z Z) ?_
     refine AG ?_;refine Fs rfl ((decide_eq_false (by simp))) (Ak (AF (AF (AJ (AD Z Z (AG (Al (DG (α:=Nat) (fun k=>⟨109,[(9,(.d (.sl (some true) []))),(11,(.d (.sl (some true) []))),(13,(.d (AH (k:Int))))],[]⟩) (fun k=>k=0) (fun k=>0) (0) (rfl) (BA hF [] Z Z ⟨rfl,rfl,rfl,trivial⟩) ?_))))))));intro k hk0;subst hk0;refine AF (AF (AJ (AC Z Z (AC Z Z ?_))))
     first | refine J (Cz rfl Tryz.underlying33 rfl) ?_ | refine J (C9 Z Z Tryz.underlying33 rfl) ?_ | refine J (DB rfl Tryz.underlying33 rfl) ?_ | refine J (Cy rfl Tryz.underlying33 rfl) ?_ | refine J (Cr rfl Tryz.underlying33 rfl) ?_ | refine J (Cw rfl Tryz.underlying33 rfl) ?_
     first | refine J (CD Z Z Z) ?_ | refine J (CE Z Z Z) ?_
     refine AG (Fs rfl (rfl) (CW (AF (AJ (AD Z Z (AG (Ae ?_)))))));exact ⟨_,[],[],Aa rfl,rfl,rfl,rfl,rfl⟩
 ·rw [decide_eq_false hf] at hs;refine B2 Tryz.func4 Z Z Tryz.ntmps4 Z Z Z fun F hF=>?_;refine AF (AJ (U (C5 1 Z Z Z Z Z Z Z) (AD Z Z (AG (AF (AF (AJ (J (B1 (hk) Z Z) ?_))))))))
  first | refine J (GZ Z Z) ?_ | refine J (GP Z Z) ?_
  refine AC Z Z (Kf 16 rfl (rfl) (A9 Z Z Z ?_))
  first | refine J (Av Z Z In rfl) ?_ | refine J (Aw Z Z In Z Z Z) ?_ | refine J (Ax Z Z (rfl) rfl In rfl) ?_
  refine A9 Z Z Z (J (B1 (hs) Z Z) (A9 Z Z Z ?_))
  first | refine J (GZ Z Z) ?_ | refine J (GP Z Z) ?_
  refine J (EC Z Z Z Z) (AG (EB rfl (rfl) (AF (AJ (J (B1 (hk) Z Z) (AD Z Z (AG (Ae ?_))))))));exact ⟨_,[],[],Aa rfl,rfl,rfl,rfl,rfl⟩
end Go.Proofs.YtnkkaeblokdifaaGreat
namespace Go.Proofs.YtnkkaeblokdifaaGreat
open Go.ChangeShapes Go.WideShapes Go.ChangeAt Go.RowKit
set_option maxRecDepth 100000 in
theorem systemGross_lifted (os:Os) (started:os.Started) (H:Type) (enc:TypeId×Value ->H):
  ReturnsInHanded {} Tryz.checked os 4 .any (Rows.systemGrossSpec.pre6 enc Tryz.prog Tryz.f4 Rows.systemGrossRow.domain false) (Rows.systemGrossSpec.post enc Tryz.prog Tryz.f4 false true false false):=by
 refine returnsInHanded_of_change_sized (C:=Tryz.checked) Tryz.own started (by kernel_rfl) Tryz.func4
  (ChangeSpec.witness6 (enc:=enc) (C:=Tryz.checked) false ⟨#[], #[.agg #[.slice none 0 0,.slice none 0 0]],[]⟩ 8 (by kernel_rfl) (by kernel_rfl) (by kernel_rfl) (by kernel_rfl)) ?_
 intro W base args ds gs before hval0 hW _ hwt _;have hW':=hW;obtain ⟨p,q,hA0,hV,rfl,_,_⟩:=hW;have hlt:∀x∈p++q,x.block<W.heap.size:=fun x hx=>hW'.lt x hx;have hA:DataW.TrodAll enc Tryz.prog W 0 (fun _=>true) true Tryz.f4.params.toList args.toList ds p:=hA0;rw [Tryz.params4] at hA;obtain ⟨v0,d0,rfl,rfl,h0⟩:=trodAll_one hA;obtain ⟨rfl,rfl⟩:=trodVars_none hV;have hwz:∀n∈DataW.weightsEach Tryz.prog ([25]:List TypeId) ([d0]),n≤reachBytes:=fun n hn=>of_decide_eq_true (List.all_eq_true.1 hwt n (by rw [Tryz.params4];exact hn));have hval:∀(j:Nat) t v,Tryz.f4.params[j]?=some t ->(#[v0]:Array Value)[j]?=some v ->Value.okWide Tryz.prog W .any base t v:=hval0;rw [Tryz.params4] at hval;obtain ⟨n0,g0⟩:=h0;obtain ⟨cs0,rfl,_⟩:=okWide_struct Tryz.underlying25 (hval 0 25 v0 rfl rfl);obtain ⟨a0,q0,_,r0⟩:=(oPrb) _ _ _ g0 (fun x hx=>hlt x (by simp [hx])) (fun n hn=>hwz n (DataW.weights_mem_each (j:=0) (t:=25) rfl rfl n hn));refine (Vd (lawY3_p a0) (vs:=[.agg cs0]) rfl (fun i a v ha hv=>?_)).mono fun e W' ⟨he,hb⟩=>?_
 ·rcases i with _ | i
  ·simp at ha hv;subst ha hv;exact T7.argS rfl r0
  ·simp at ha
 subst he;exact ⟨_,rfl,Xy (tb:=4) Tryz.laidOut (by kernel_rfl) Z Z Tryz.underlying4 hW' ⟨rfl,rfl,rfl⟩ hb⟩
theorem systemGross_holds:Rows.SystemGrossSaid:=
 OpenClaim.holds_of_wide 4 Tryz.f4 Z Z Z Z Z Z Z ⟨rfl,rfl,rfl,rfl,rfl⟩ Z Z Z Z Z (by kernel_rfl) Tryz.func4 (by kernel_rfl)
  (of_decide_eq_true (by kernel_rfl)) (by unfold Func.isWrapper;first | (rw [if_pos (by decide+kernel)];kernel_rfl) | (rw [if_neg (by decide+kernel)];exact ⟨rfl,rfl⟩))
  (fun os started H enc _=>systemGross_lifted os started H enc)
#print axioms systemGross_holds
end Go.Proofs.YtnkkaeblokdifaaGreat
