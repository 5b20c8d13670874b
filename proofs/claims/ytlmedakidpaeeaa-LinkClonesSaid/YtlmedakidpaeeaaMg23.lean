/- Layer 27: the laws' play. -/
import Derived.Test.YtlmedakidpaeeaaMg22
namespace Go.Proofs.Ytlmedakidpaeeaa
open Go.RowKit
set_option maxRecDepth 100000
theorem Gw {w:Ws} (hw:BV w):(groupsW w).length≤1000000∧∀g∈groupsW w,g.m.length≤1000000∧g.a.length≤1000000:=by
 have hfew:=hw.few;have hpn:(parts w).length≤4096:=by unfold parts;rw [List.length_map];exact Nat.le_trans (List.length_filter_le _ _) hfew
 cases ho:ordW w with
 | none=>rw [(LB ho).1];exact ⟨by simp,fun g hg=>by simp at hg⟩
 | some ord=>
  rw [(IS ho).1];obtain ⟨hgo,hl⟩:=KB ho;refine ⟨by rw [FZ];omega,fun g hg=>?_⟩;obtain ⟨p,hp,rfl⟩:=List.mem_map.1 hg;have hp:=List.mem_range.1 hp
  constructor
  ·show ((parts w).getD (ord.getD p 0) []).length≤_
   by_cases hi:ord.getD p 0<(parts w).length
   ·have h1:=(EO (Ii hw (List.mem_of_getElem? (Fm hi)))).length_le_of_subset (l₂:=w.R) fun y hy=>((Kr hw hi).1 hy).1;omega
   ·rw [List.getD_eq_getElem?_getD,List.getElem?_eq_none (by omega)];exact Nat.zero_le _
  ·show (EY (depL w) ord (ord.getD p 0) p).length≤_;have:=Mh w ord (ord.getD p 0) p;unfold aftT at this;unfold EY;omega
noncomputable def opsW (l:List Hs):Ws:=l.foldl (fun w o=>(opW w o).1) ⟨[],[]⟩
theorem Og (l:List Hs) (o:Hs):opsW (l++ [o])=(opW (opsW l) o).1:=by unfold opsW;rw [List.foldl_append];rfl
theorem HR {l:List Hs} {k:Nat} (hk:k<l.length):opsW (l.take (k+1))=(opW (opsW (l.take k)) l[k]).1:=by rw [List.take_succ_eq_append_getElem hk,Og]
theorem In (l:List Hs):∀k,k≤l.length ->C8 (opsW (l.take k)) k:=by
 intro k
 induction k with
 | zero=>intro _;exact C8.nil
 | succ k ih=>intro hk;rw [HR (by omega)];exact (ih (by omega)).op _
theorem Hz {l:List Hs} {k:Nat} (h:k<l.length):(l.map opD)[k]?=some (opD l[k]):=by
 rw [List.getElem?_map,List.getElem?_eq_getElem h];rfl
set_option maxHeartbeats 4000000 in
theorem Pt (l:List Hs) (hl:l.length≤1000):AR Try.prog 18 [.d (NJ l)] [] fun r H'=>∃b M,r= .d (.tup [pD b 0,Jh (opsW l)])∧H'=[(40,[.multi M])]∧BR M b (opsW l):=by
 refine DA Try.func18 Z Z Try.ntmps18 Z Z Z fun F hF=>(AG (AI (AE Z Z (U (HG 20 D6 Z Z Z Z) (AF (AG (AI ?_)))))));refine H7 (IZ QW rfl [40] ⟨rfl,trivial⟩ Z Z Z Z (fun r H' ⟨b,M,e1,e2,_⟩=>by subst e1 e2;exact ⟨rfl,rfl,rfl⟩) rfl) rfl ?_;rintro _ ⟨r,H',⟨b,M0,e1,e2,h0⟩,rfl⟩;subst e1 e2;refine J (Ml D6 Lq Z Z Z) (U (HG 25 D6 Z Z Z Z) (AE Z Z (U (Bm Z Z Z Z Z Z Z Bd) (AF ?_))));refine AG (AG (OG 25 0 0 (stsD []) Z Z (fun _ _ _ h=>h.anyNil) Z Z (OG 25 0 1 (It []) Z Z (fun _ _ _ h=>h.anyNil) Z Z (AI (AE Z Z (AF (B7 (FC (α:=Nat×MF) (fun q=>⟨32,[(0,.d (NJ l)),(3,(.ptr 20 0 0)),(4,(.d (pD b 0))),(5,(.ptr 25 0 0)),(6,(.d (natD q.1)))],[(20,[.blk 35 [.d (.sl (some true) []),.d (.sl (some true) [])]]),(25,[.blk 35 [.d (stsD (opsW (l.take q.1)).R),.d (It (opsW (l.take q.1)).K)]]),(40,[.multi q.2])]⟩) (fun q=>q.1≤l.length∧BR q.2 b (opsW (l.take q.1))) (fun q=>l.length - q.1) ((0,M0)) (⟨Nat.zero_le _,h0⟩) (BC hF [20,25,40] Z Z ⟨rfl,rfl,rfl,rfl,rfl,trivial⟩) ?_))))))));rintro ⟨k,M⟩ ⟨hk,hR⟩;dsimp only at hk hR⊢;refine AG (AG (AI (AC Z Z (AC Z Z (J (Br rfl (List.length_map ..) Try.underlying30 rfl) ?_)))))
 first | refine J (Ed Z Z Z) ?_ | refine J (Ef Z Z Z) ?_
 refine AF ?_
 first | refine BA rfl (fun h12=>?_) (fun h12=>?_) | refine Az rfl (fun h12=>?_) (fun h12=>?_)
 ·refine Ai (AG (B7 (AG ?_)));have hkl:k<l.length:=HB h12;have hInv:=In l k hk;have hnK:=hInv.nK;refine AI (AC Z Z (AC Z Z (AC Z Z ?_)))
  first | refine J (BE (k) Z Z (rfl) (Hz hkl) Try.underlying30 rfl G8 rfl) ?_ | refine J (BF (k) Z Z (rfl) (Hz hkl) rfl Try.underlying30 G8 rfl) ?_
  first | refine J (BN Z Z FE rfl) ?_ | refine J (BO Z Z FE Z Z Z) ?_ | refine J (BP Z Z (rfl) rfl FE rfl) ?_
  refine H7 (IZ (do_c hR hInv.ok (by omega) l[k]) rfl [40] ⟨rfl,trivial⟩ Z Z Z Z (fun r H' ⟨M,e1,e2,_⟩=>by subst e1 e2;exact ⟨rfl,rfl,rfl⟩) rfl) rfl ?_;rintro _ ⟨r,H',⟨M1,e1,e2,h1⟩,rfl⟩;subst e1 e2;refine AF (Ee [[],[],[],[1,2],[1,2,3],[0,1,2,3,4],[0,1,2,3,4,5],[0,1,2,3,4,5,6],[0,1,2,3,4,5,6],[0,1,2,3,4,5,6,7]] mixed rfl (DL ?_))
  first | refine AD [5] [25] Z Z (fun _=>AB (BN Z Z AK rfl)) ?_ | refine AD [5] [25] Z Z (fun _=>AB (BO Z Z AK Z Z Z)) ?_ | refine AD [5] [25] Z Z (fun _=>AB (BP Z Z (rfl) rfl AK rfl)) ?_
  first | refine AD [0] [] Z Z (fun _=>AB (A9 Z Z)) ?_ | refine AH [0] Z Z (fun _=>AB (A9 Z Z)) ?_
  first | refine AD [6] [] Z Z (fun _=>AB (A9 Z Z)) ?_ | refine AH [6] Z Z (fun _=>AB (A9 Z Z)) ?_
  first | refine AD [23,24] [] Z Z (fun _=>AB (BE (k) Z Z (rfl) (Hz hkl) Try.underlying30 rfl G8 rfl)) ?_ | refine AH [23,24] Z Z (fun _=>AB (BE (k) Z Z (rfl) (Hz hkl) Try.underlying30 rfl G8 rfl)) ?_ | refine AD [23,24] [] Z Z (fun _=>AB (BF (k) Z Z (rfl) (Hz hkl) rfl Try.underlying30 G8 rfl)) ?_ | refine AH [23,24] Z Z (fun _=>AB (BF (k) Z Z (rfl) (Hz hkl) rfl Try.underlying30 G8 rfl)) ?_
  first | refine AD [25] [] Z Z (fun _=>AB (BN Z Z FE rfl)) ?_ | refine AH [25] Z Z (fun _=>AB (BN Z Z FE rfl)) ?_ | refine AD [25] [] Z Z (fun _=>AB (BO Z Z FE Z Z Z)) ?_ | refine AH [25] Z Z (fun _=>AB (BO Z Z FE Z Z Z)) ?_ | refine AD [25] [] Z Z (fun _=>AB (BP Z Z (rfl) rfl FE rfl)) ?_ | refine AH [25] Z Z (fun _=>AB (BP Z Z (rfl) rfl FE rfl)) ?_
  refine DM 5 Z Z Z (BI 6 Z Z (J (DE (Nr (opsW (l.take k)) hInv.ok (by omega) l[k]) Z Z) (AF ⟨rfl,?_⟩)));refine BI 7 Z Z (AC Z Z (AF ⟨rfl,?_⟩));refine DL ?_
  first | refine AD [21] [] Z Z (fun _=>AB (B4 Z Z Z)) ?_ | refine AH [21] Z Z (fun _=>AB (B4 Z Z Z)) ?_ | refine AD [21] [] Z Z (fun _=>AB (B5 Z Z Z)) ?_ | refine AH [21] Z Z (fun _=>AB (B5 Z Z Z)) ?_
  first | refine AD [21] [] Z Z (fun _=>AB (B4 Z Z Z)) ?_ | refine AH [21] Z Z (fun _=>AB (B4 Z Z Z)) ?_ | refine AD [21] [] Z Z (fun _=>AB (B5 Z Z Z)) ?_ | refine AH [21] Z Z (fun _=>AB (B5 Z Z Z)) ?_
  refine Bp [5,28] [25] [] Z Z (fun _=>IC (Bm Z Z Z Z Z Z Z Bd)) (.inl ⟨rfl,rfl⟩) Z Z Z Z Z (DM 10 Z Z Z (ED (AI (AC Z Z (J (Cm Z Z (IntWalk.i64_in _ (by omega)) rfl) (AE Z Z (AF ?_)))))));exact ⟨(k+1,M1),⟨hkl,by show BR M1 b (opsW (l.take (k+1)));rw [HR hkl];exact h1⟩,by show l.length - (k+1)<l.length - k;omega,BC hF [20,25,40] rfl (by simp only [HR hkl];rfl) ⟨rfl,rfl,rfl,rfl,rfl,trivial⟩⟩
 ·refine Dq (AG ?_);have hke:k=l.length:=by have:=h12;omega
  rw [hke,List.take_length] at hR;rw [hke,List.take_length];refine Ee [[],[],[0],[0,1,2]] mixed rfl (DL ?_)
  first | refine AD [4] [] Z Z (fun _=>AB (A9 Z Z)) ?_ | refine AH [4] Z Z (fun _=>AB (A9 Z Z)) ?_
  first | refine AD [5] [25] Z Z (fun _=>AB (BN Z Z AK rfl)) ?_ | refine AD [5] [25] Z Z (fun _=>AB (BO Z Z AK Z Z Z)) ?_ | refine AD [5] [25] Z Z (fun _=>AB (BP Z Z (rfl) rfl AK rfl)) ?_
  first | refine AD [30] [] Z Z (fun _=>AB (EN Z Z)) ?_ | refine AH [30] Z Z (fun _=>AB (EN Z Z)) ?_
  refine DM 3 Z Z Z (BI 4 Z Z (U (Bm Z Z Z Z Z Z Z Bd) (AF ⟨rfl,?_⟩)));refine ED (Au ?_);exact ⟨_,[40],_,Aq rfl,rfl,rfl,b,M,rfl,rfl,hR⟩
section
variable {P:Program} {F:Fr} {s:AS} {d:Nat} {ty T T' E:TypeId} {pos:String} {aft:Array Edge} {g:Option (Nat×Bool)} {x:Operand}
theorem GZ {p:Option Addr} (hT:P.underlying T=some (.pointer E)) (hx:s.ev x=some (.d (.raw (.pointer p)))) (hd:Nat.blt d s.n=true):AA P F ⟨some d,.binOp .neq T x (.const (.pointer none)) T',ty,pos,aft,g⟩ s d (.d (.raw (.bool (!p.isNone)))):=
 Bl _ hd fun ρ act w hs=>by
  have hv:=hs.raw hx;have hp:P.pointee T=E:=by unfold Program.pointee;rw [hT]
  have hc:act.eval (.const (.pointer none))= .pointer none:=rfl;exact ⟨.bool (!p.isNone),by simp [execOp,hv,hc,Cy,binOp,run_equal_pointer_nil w T p (by rw [hp];exact hT)],.d (.raw rfl)⟩
end
theorem O4 (w:Ws):decide (Dg w w)=true:=decide_eq_true ⟨rfl,fun _=>Iff.rfl⟩
theorem Qo {M N:MF} {b b2:Nat} {w w2:Ws} (h:BR M b w) (h2:BR N b2 w2) (hw:BV w) (hw2:BV w2):AR Try.prog 28 [.d (pD b 0),.d (pD b2 0)] [(41,[.multi M]),(40,[.multi N])] fun r H'=>r= .d (Ak (decide (Dg w w2)))∧H'=[(41,[.multi M]),(40,[.multi N])]:=
 (OB h h2 hw hw2).by [(40,41)] rfl
theorem Pd {w v:Ws} (h:¬(w.R.length:Int)=(v.R.length:Int)):decide (Dg w v)=false:=decide_eq_false fun hs=>h (by rw [hs.1])
theorem Pe {w v:Ws} (hw:BV w) (hv:BV v) (hs:Dg w v):w.K.length=v.K.length:=((List.perm_ext_iff_of_nodup hw.nd hv.nd).2 hs.2).length_eq
theorem Pc {w v:Ws} (hw:BV w) (hv:BV v) (h:¬(w.K.length:Int)=(v.K.length:Int)):decide (Dg w v)=false:=decide_eq_false fun hs=>h (by rw [Pe hw hv hs])
theorem Pb {w v:Ws} {k:Nat} (h:¬w.R.getD k []=v.R.getD k []):decide (Dg w v)=false:=decide_eq_false fun hs=>h (by rw [hs.1])
theorem Pa {w v:Ws} {l:Lw} (hl:l∈w.K) (h:l∉v.K):decide (Dg w v)=false:=decide_eq_false fun hs=>h ((hs.2 l).1 hl)
theorem P9 {w v:Ws} (hw:BV w) (hR:w.R.length=v.R.length) (hK:w.K.length=v.K.length) (h1:w.R.take w.R.length=v.R.take w.R.length) (h2:∀l∈w.K,l∈v.K):decide (Dg w v)=true:=by
 refine decide_eq_true ⟨?_,fun l=>⟨h2 l,fun hl=>Classical.byContradiction fun hn=>?_⟩⟩
 ·have:=h1;rw [List.take_length,hR,List.take_length] at this;exact this
 ·have:=(List.nodup_cons.2 ⟨hn,hw.nd⟩).length_le_of_subset (l₂:=v.K) fun y hy=>(List.mem_cons.1 hy).elim (fun e=>e▸hl) (h2 y);rw [List.length_cons] at this;omega
set_option maxHeartbeats 4000000 in
theorem Pf (w v:Ws) (hw:BV w) (hv:BV v) (hwK:w.K.length≤1000000) (hvK:v.K.length≤1000000):B3 Try.prog 31 [.d (Jh w),.d (Jh v)] (Ak (decide (Dg w v))):=by
 have hw4:=hw.few;have hv4:=hv.few;refine DA Try.func31 Z Z Try.ntmps31 Z Z Z fun F hF=>?_;refine AG (AI (U (IG 20 Z Z Z Z Z Z Z) (U (IG 21 Z Z Z Z Z Z Z) (AE Z Z (AF (AG (AG (AI ?_))))))))
 first | refine J (A1 rfl A7 Z Z Z) ?_ | refine J (A3 rfl A7 Z Z Z) ?_ | refine J (A4 rfl A7 Z Z Z) ?_ | refine J (A2 rfl A7 Z Z Z) ?_ | refine J (A0 rfl A7 Z Z Z) ?_
 first | refine J (AX Z Z AL rfl) ?_ | refine J (AU Z Z Z AL rfl) ?_ | refine J (AW Z Z (rfl) rfl AL rfl) ?_
 refine J (Br rfl (List.length_map ..) Try.underlying32 rfl) ?_
 first | refine J (A1 rfl A7 Z Z Z) ?_ | refine J (A3 rfl A7 Z Z Z) ?_ | refine J (A4 rfl A7 Z Z Z) ?_ | refine J (A2 rfl A7 Z Z Z) ?_ | refine J (A0 rfl A7 Z Z Z) ?_
 first | refine J (AX Z Z AL rfl) ?_ | refine J (AU Z Z Z AL rfl) ?_ | refine J (AW Z Z (rfl) rfl AL rfl) ?_
 refine J (Br rfl (List.length_map ..) Try.underlying32 rfl) ?_
 first | refine J (G3 Z Z Z) ?_ | refine J (G0 Z Z Z) ?_ | refine J (GX Z Z Z) ?_ | refine J (G4 Try.underlying3 Z Z Z) ?_ | refine J (G6 Try.underlying3 Z Z Z) ?_ | refine J (st_neqN Try.underlying3 Z Z) ?_ | refine J (GZ Try.underlying3 Z Z) ?_ | refine J (st_neqMz Try.underlying3 Z Z) ?_ | refine J (G5 Try.underlying3 Z Z Z) ?_ | refine J (st_neqFN Try.underlying3 Z Z) ?_
 refine AC Z Z ?_
 first | refine JQ 14 rfl (fun h14=>?_) (fun h14=>?_) | refine ID 14 rfl (fun h14=>?_) (fun h14=>?_)
 ·refine Ay Z Z Z Z (Ay Z Z Z Z (Ay Z Z Z Z (Ay Z Z Z Z (Ay Z Z Z Z (Ay Z Z Z Z ?_)))));refine Ay Z Z Z Z (J (G1 Z Z Z Z) (AF (IE Z Z (AG (AI (AE Z Z (AF (Au ?_))))))));exact ⟨_,[],[],Aq rfl,rfl,rfl,by rw [Pd h14],rfl⟩
 ·refine A8 Z Z Z ?_
  first | refine J (A1 rfl Ab Z Z Z) ?_ | refine J (A3 rfl Ab Z Z Z) ?_ | refine J (A4 rfl Ab Z Z Z) ?_ | refine J (A2 rfl Ab Z Z Z) ?_ | refine J (A0 rfl Ab Z Z Z) ?_
  refine A8 Z Z Z ?_
  first | refine J (AX Z Z Al rfl) ?_ | refine J (AU Z Z Z Al rfl) ?_ | refine J (AW Z Z (rfl) rfl Al rfl) ?_
  refine A8 Z Z Z (J (Br rfl (List.length_map ..) Try.underlying33 rfl) (A8 Z Z Z ?_))
  first | refine J (A1 rfl Ab Z Z Z) ?_ | refine J (A3 rfl Ab Z Z Z) ?_ | refine J (A4 rfl Ab Z Z Z) ?_ | refine J (A2 rfl Ab Z Z Z) ?_ | refine J (A0 rfl Ab Z Z Z) ?_
  refine A8 Z Z Z ?_
  first | refine J (AX Z Z Al rfl) ?_ | refine J (AU Z Z Z Al rfl) ?_ | refine J (AW Z Z (rfl) rfl Al rfl) ?_
  refine A8 Z Z Z (J (Br rfl (List.length_map ..) Try.underlying33 rfl) (A8 Z Z Z ?_))
  first | refine J (G3 Z Z Z) ?_ | refine J (G0 Z Z Z) ?_ | refine J (GX Z Z Z) ?_ | refine J (G4 Try.underlying3 Z Z Z) ?_ | refine J (G6 Try.underlying3 Z Z Z) ?_ | refine J (st_neqN Try.underlying3 Z Z) ?_ | refine J (GZ Try.underlying3 Z Z) ?_ | refine J (st_neqMz Try.underlying3 Z Z) ?_ | refine J (G5 Try.underlying3 Z Z Z) ?_ | refine J (st_neqFN Try.underlying3 Z Z) ?_
  refine J (Ey Z Z Z Z) (AF ?_)
  first | refine BA rfl (fun h22=>?_) (fun h22=>?_) | refine Az rfl (fun h22=>?_) (fun h22=>?_)
  ·refine AG (AI (AE Z Z (AF (Au ?_))));exact ⟨_,[],[],Aq rfl,rfl,rfl,by rw [Pc hw hv h22],rfl⟩
  ·refine Ai (AG (AG ?_));have hRl:w.R.length=v.R.length:=Int.ofNat.inj (Classical.not_not.1 h14);have hKl:w.K.length=v.K.length:=Int.ofNat.inj (Classical.not_not.1 h22);refine AI (AE Z Z (AF (B7 (FC (α:=Nat) (fun k=>⟨56,[(2,(.ptr 20 0 0)),(3,(.ptr 21 0 0)),(5,(.d (natD k)))],[(20,[.blk 35 [.d (stsD w.R),.d (It w.K)]]),(21,[.blk 35 [.d (stsD v.R),.d (It v.K)]])]⟩) (fun k=>k≤w.R.length∧w.R.take k=v.R.take k) (fun k=>w.R.length - k) (0) (⟨Nat.zero_le _,rfl⟩) (BC hF [20,21] Z Z ⟨rfl,rfl,rfl,trivial⟩) ?_))));rintro k ⟨hk,hE⟩;refine AG (AG (AI (AC Z Z ?_)))
   first | refine J (A1 rfl A7 Z Z Z) ?_ | refine J (A3 rfl A7 Z Z Z) ?_ | refine J (A4 rfl A7 Z Z Z) ?_ | refine J (A2 rfl A7 Z Z Z) ?_ | refine J (A0 rfl A7 Z Z Z) ?_
   first | refine J (AX Z Z AL rfl) ?_ | refine J (AU Z Z Z AL rfl) ?_ | refine J (AW Z Z (rfl) rfl AL rfl) ?_
   refine J (Br rfl (List.length_map ..) Try.underlying32 rfl) ?_
   first | refine J (Ed Z Z Z) ?_ | refine J (Ef Z Z Z) ?_
   refine AF ?_
   first | refine BA rfl (fun h27=>?_) (fun h27=>?_) | refine Az rfl (fun h27=>?_) (fun h27=>?_)
   ·refine Ai (AG (B7 (AG ?_)));have hkl:k<w.R.length:=HB h27;have hkv:k<v.R.length:=by omega
    refine Ee [[],[0],[],[0,1,2],[0,1,2,3],[],[5],[],[5,6,7],[5,6,7,8],[0,1,2,3,4,5,6,7,8,9]] mixed rfl (DL ?_)
    first | refine AD [2] [] Z Z (fun _=>AB (A1 rfl A7 Z Z Z)) ?_ | refine AH [2] Z Z (fun _=>AB (A1 rfl A7 Z Z Z)) ?_ | refine AD [2] [] Z Z (fun _=>AB (A3 rfl A7 Z Z Z)) ?_ | refine AH [2] Z Z (fun _=>AB (A3 rfl A7 Z Z Z)) ?_ | refine AD [2] [] Z Z (fun _=>AB (A4 rfl A7 Z Z Z)) ?_ | refine AH [2] Z Z (fun _=>AB (A4 rfl A7 Z Z Z)) ?_ | refine AD [2] [] Z Z (fun _=>AB (A2 rfl A7 Z Z Z)) ?_ | refine AH [2] Z Z (fun _=>AB (A2 rfl A7 Z Z Z)) ?_ | refine AD [2] [] Z Z (fun _=>AB (A0 rfl A7 Z Z Z)) ?_ | refine AH [2] Z Z (fun _=>AB (A0 rfl A7 Z Z Z)) ?_
    first | refine AD [30] [] Z Z (fun _=>AB (AX Z Z AL rfl)) ?_ | refine AH [30] Z Z (fun _=>AB (AX Z Z AL rfl)) ?_ | refine AD [30] [] Z Z (fun _=>AB (AU Z Z Z AL rfl)) ?_ | refine AH [30] Z Z (fun _=>AB (AU Z Z Z AL rfl)) ?_ | refine AD [30] [] Z Z (fun _=>AB (AW Z Z (rfl) rfl AL rfl)) ?_ | refine AH [30] Z Z (fun _=>AB (AW Z Z (rfl) rfl AL rfl)) ?_
    first | refine AD [5] [] Z Z (fun _=>AB (A9 Z Z)) ?_ | refine AH [5] Z Z (fun _=>AB (A9 Z Z)) ?_
    first | refine AD [31,32] [] Z Z (fun _=>AB (BE (k) Z Z (rfl) (CT hkl) Try.underlying32 rfl DO rfl)) ?_ | refine AH [31,32] Z Z (fun _=>AB (BE (k) Z Z (rfl) (CT hkl) Try.underlying32 rfl DO rfl)) ?_ | refine AD [31,32] [] Z Z (fun _=>AB (BF (k) Z Z (rfl) (CT hkl) rfl Try.underlying32 DO rfl)) ?_ | refine AH [31,32] Z Z (fun _=>AB (BF (k) Z Z (rfl) (CT hkl) rfl Try.underlying32 DO rfl)) ?_
    first | refine AD [33] [] Z Z (fun _=>AB (AX Z Z AY rfl)) ?_ | refine AH [33] Z Z (fun _=>AB (AX Z Z AY rfl)) ?_ | refine AD [33] [] Z Z (fun _=>AB (AU Z Z Z AY rfl)) ?_ | refine AH [33] Z Z (fun _=>AB (AU Z Z Z AY rfl)) ?_ | refine AD [33] [] Z Z (fun _=>AB (AW Z Z (rfl) rfl AY rfl)) ?_ | refine AH [33] Z Z (fun _=>AB (AW Z Z (rfl) rfl AY rfl)) ?_
    first | refine AD [3] [] Z Z (fun _=>AB (A1 rfl A7 Z Z Z)) ?_ | refine AH [3] Z Z (fun _=>AB (A1 rfl A7 Z Z Z)) ?_ | refine AD [3] [] Z Z (fun _=>AB (A3 rfl A7 Z Z Z)) ?_ | refine AH [3] Z Z (fun _=>AB (A3 rfl A7 Z Z Z)) ?_ | refine AD [3] [] Z Z (fun _=>AB (A4 rfl A7 Z Z Z)) ?_ | refine AH [3] Z Z (fun _=>AB (A4 rfl A7 Z Z Z)) ?_ | refine AD [3] [] Z Z (fun _=>AB (A2 rfl A7 Z Z Z)) ?_ | refine AH [3] Z Z (fun _=>AB (A2 rfl A7 Z Z Z)) ?_ | refine AD [3] [] Z Z (fun _=>AB (A0 rfl A7 Z Z Z)) ?_ | refine AH [3] Z Z (fun _=>AB (A0 rfl A7 Z Z Z)) ?_
    first | refine AD [35] [] Z Z (fun _=>AB (AX Z Z AL rfl)) ?_ | refine AH [35] Z Z (fun _=>AB (AX Z Z AL rfl)) ?_ | refine AD [35] [] Z Z (fun _=>AB (AU Z Z Z AL rfl)) ?_ | refine AH [35] Z Z (fun _=>AB (AU Z Z Z AL rfl)) ?_ | refine AD [35] [] Z Z (fun _=>AB (AW Z Z (rfl) rfl AL rfl)) ?_ | refine AH [35] Z Z (fun _=>AB (AW Z Z (rfl) rfl AL rfl)) ?_
    first | refine AD [5] [] Z Z (fun _=>AB (A9 Z Z)) ?_ | refine AH [5] Z Z (fun _=>AB (A9 Z Z)) ?_
    first | refine AD [36,37] [] Z Z (fun _=>AB (BE (k) Z Z (rfl) (CT hkv) Try.underlying32 rfl DO rfl)) ?_ | refine AH [36,37] Z Z (fun _=>AB (BE (k) Z Z (rfl) (CT hkv) Try.underlying32 rfl DO rfl)) ?_ | refine AD [36,37] [] Z Z (fun _=>AB (BF (k) Z Z (rfl) (CT hkv) rfl Try.underlying32 DO rfl)) ?_ | refine AH [36,37] Z Z (fun _=>AB (BF (k) Z Z (rfl) (CT hkv) rfl Try.underlying32 DO rfl)) ?_
    first | refine AD [38] [] Z Z (fun _=>AB (AX Z Z AY rfl)) ?_ | refine AH [38] Z Z (fun _=>AB (AX Z Z AY rfl)) ?_ | refine AD [38] [] Z Z (fun _=>AB (AU Z Z Z AY rfl)) ?_ | refine AH [38] Z Z (fun _=>AB (AU Z Z Z AY rfl)) ?_ | refine AD [38] [] Z Z (fun _=>AB (AW Z Z (rfl) rfl AY rfl)) ?_ | refine AH [38] Z Z (fun _=>AB (AW Z Z (rfl) rfl AY rfl)) ?_
    refine DM 10 Z Z Z (BI 11 Z Z ?_)
    first | refine J (G3 Z Z Z) ?_ | refine J (G0 Z Z Z) ?_ | refine J (GX Z Z Z) ?_ | refine J (G4 Try.underlying9 Z Z Z) ?_ | refine J (G6 Try.underlying9 Z Z Z) ?_ | refine J (st_neqN Try.underlying9 Z Z) ?_ | refine J (GZ Try.underlying9 Z Z) ?_ | refine J (st_neqMz Try.underlying9 Z Z) ?_ | refine J (G5 Try.underlying9 Z Z Z) ?_ | refine J (st_neqFN Try.underlying9 Z Z) ?_
    refine AF ⟨rfl,?_⟩;refine ED ?_
    first | refine BA rfl (fun h40=>?_) (fun h40=>?_) | refine Az rfl (fun h40=>?_) (fun h40=>?_)
    ·refine AG (AI (AE Z Z (AF (Au ?_))));exact ⟨_,[],[],Aq rfl,rfl,rfl,by rw [Pb h40],rfl⟩
    ·refine Ai (AI (AC Z Z (J (Cm Z Z (IntWalk.i64_in _ (by omega)) rfl) (AE Z Z (AF ?_)))));exact ⟨k+1,⟨hkl,Ng hkl hkv hE (Classical.not_not.1 h40)⟩,by omega,BC hF [20,21] rfl (rfl) ⟨rfl,rfl,rfl,trivial⟩⟩
   ·refine Dq (AG (AG ?_));have hke:k=w.R.length:=by have:=h27;omega
    rw [hke] at hE;refine AI (AE Z Z (AF (B7 (FC (α:=Nat) (fun j=>⟨56,[(2,(.ptr 20 0 0)),(3,(.ptr 21 0 0)),(6,(.d (natD j)))],[(20,[.blk 35 [.d (stsD w.R),.d (It w.K)]]),(21,[.blk 35 [.d (stsD v.R),.d (It v.K)]])]⟩) (fun j=>j≤w.K.length∧∀l∈w.K.take j,l∈v.K) (fun j=>w.K.length - j) (0) (⟨Nat.zero_le _,by simp⟩) (BC hF [20,21] Z Z ⟨rfl,rfl,rfl,trivial⟩) ?_))));rintro j ⟨hj,hA⟩;refine AG (AG (AI (AC Z Z ?_)))
    first | refine J (A1 rfl Ab Z Z Z) ?_ | refine J (A3 rfl Ab Z Z Z) ?_ | refine J (A4 rfl Ab Z Z Z) ?_ | refine J (A2 rfl Ab Z Z Z) ?_ | refine J (A0 rfl Ab Z Z Z) ?_
    first | refine J (AX Z Z Al rfl) ?_ | refine J (AU Z Z Z Al rfl) ?_ | refine J (AW Z Z (rfl) rfl Al rfl) ?_
    refine J (Br rfl (List.length_map ..) Try.underlying33 rfl) ?_
    first | refine J (Ed Z Z Z) ?_ | refine J (Ef Z Z Z) ?_
    refine AF ?_
    first | refine BA rfl (fun h45=>?_) (fun h45=>?_) | refine Az rfl (fun h45=>?_) (fun h45=>?_)
    ·refine Ai (AG (B7 (AG ?_)));have hjl:j<w.K.length:=HB h45;refine Ee [[],[],[1],[],[1,2,3],[1,2,3,4],[0,1,2,3,4,5],[0,1,2,3,4,5,6]] mixed rfl (DL ?_)
     first | refine AD [3] [] Z Z (fun _=>AB (BN Z Z AK rfl)) ?_ | refine AH [3] Z Z (fun _=>AB (BN Z Z AK rfl)) ?_ | refine AD [3] [] Z Z (fun _=>AB (BO Z Z AK Z Z Z)) ?_ | refine AH [3] Z Z (fun _=>AB (BO Z Z AK Z Z Z)) ?_ | refine AD [3] [] Z Z (fun _=>AB (BP Z Z (rfl) rfl AK rfl)) ?_ | refine AH [3] Z Z (fun _=>AB (BP Z Z (rfl) rfl AK rfl)) ?_
     first | refine AD [2] [] Z Z (fun _=>AB (A1 rfl Ab Z Z Z)) ?_ | refine AH [2] Z Z (fun _=>AB (A1 rfl Ab Z Z Z)) ?_ | refine AD [2] [] Z Z (fun _=>AB (A3 rfl Ab Z Z Z)) ?_ | refine AH [2] Z Z (fun _=>AB (A3 rfl Ab Z Z Z)) ?_ | refine AD [2] [] Z Z (fun _=>AB (A4 rfl Ab Z Z Z)) ?_ | refine AH [2] Z Z (fun _=>AB (A4 rfl Ab Z Z Z)) ?_ | refine AD [2] [] Z Z (fun _=>AB (A2 rfl Ab Z Z Z)) ?_ | refine AH [2] Z Z (fun _=>AB (A2 rfl Ab Z Z Z)) ?_ | refine AD [2] [] Z Z (fun _=>AB (A0 rfl Ab Z Z Z)) ?_ | refine AH [2] Z Z (fun _=>AB (A0 rfl Ab Z Z Z)) ?_
     first | refine AD [49] [] Z Z (fun _=>AB (AX Z Z Al rfl)) ?_ | refine AH [49] Z Z (fun _=>AB (AX Z Z Al rfl)) ?_ | refine AD [49] [] Z Z (fun _=>AB (AU Z Z Z Al rfl)) ?_ | refine AH [49] Z Z (fun _=>AB (AU Z Z Z Al rfl)) ?_ | refine AD [49] [] Z Z (fun _=>AB (AW Z Z (rfl) rfl Al rfl)) ?_ | refine AH [49] Z Z (fun _=>AB (AW Z Z (rfl) rfl Al rfl)) ?_
     first | refine AD [6] [] Z Z (fun _=>AB (A9 Z Z)) ?_ | refine AH [6] Z Z (fun _=>AB (A9 Z Z)) ?_
     first | refine AD [50,51] [] Z Z (fun _=>AB (BE (j) Z Z (rfl) (C7 hjl) Try.underlying33 rfl CF rfl)) ?_ | refine AH [50,51] Z Z (fun _=>AB (BE (j) Z Z (rfl) (C7 hjl) Try.underlying33 rfl CF rfl)) ?_ | refine AD [50,51] [] Z Z (fun _=>AB (BF (j) Z Z (rfl) (C7 hjl) rfl Try.underlying33 CF rfl)) ?_ | refine AH [50,51] Z Z (fun _=>AB (BF (j) Z Z (rfl) (C7 hjl) rfl Try.underlying33 CF rfl)) ?_
     first | refine AD [52] [] Z Z (fun _=>AB (BN Z Z Ar rfl)) ?_ | refine AH [52] Z Z (fun _=>AB (BN Z Z Ar rfl)) ?_ | refine AD [52] [] Z Z (fun _=>AB (BO Z Z Ar Z Z Z)) ?_ | refine AH [52] Z Z (fun _=>AB (BO Z Z Ar Z Z Z)) ?_ | refine AD [52] [] Z Z (fun _=>AB (BP Z Z (rfl) rfl Ar rfl)) ?_ | refine AH [52] Z Z (fun _=>AB (BP Z Z (rfl) rfl Ar rfl)) ?_
     refine DM 6 Z Z Z (BI 7 Z Z (J (DE (LH v w.K[j] (by omega)) Z Z) (AF ⟨rfl,?_⟩)));refine BI 8 Z Z ?_
     first | refine J (EG Z Z) ?_ | refine J (EE Z Z) ?_
     refine AF ⟨rfl,?_⟩;refine ED ?_
     first | refine BA rfl (fun h55=>?_) (fun h55=>?_) | refine Az rfl (fun h55=>?_) (fun h55=>?_)
     ·refine AG (AI (AE Z Z (AF (Au ?_))));exact ⟨_,[],[],Aq rfl,rfl,rfl,by rw [Pa (List.getElem_mem hjl) (by simpa using h55)],rfl⟩
     ·refine Ai (AI (AC Z Z (J (Cm Z Z (IntWalk.i64_in _ (by omega)) rfl) (AE Z Z (AF ?_)))));exact ⟨j+1,⟨hjl,fun l hl=>by rw [List.take_succ_eq_append_getElem hjl] at hl;exact (List.mem_append.1 hl).elim (hA l) fun e=>by rw [List.mem_singleton.1 e];simpa using h55⟩,by omega,BC hF [20,21] rfl (rfl) ⟨rfl,rfl,rfl,trivial⟩⟩
    ·refine Dq (AG (AI (AE Z Z (AF (Au ?_)))));exact ⟨_,[],[],Aq rfl,rfl,rfl,by rw [P9 hw hRl hKl hE (by have hje:j=w.K.length:=(by have:=h45;omega);rw [hje,List.take_length] at hA;exact hA)],rfl⟩
end Go.Proofs.Ytlmedakidpaeeaa
