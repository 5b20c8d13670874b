/- Layer 28: the example of the document; the reference's order. -/
import Derived.Test.YtnkkaeblokdifaaGreatMg16
namespace Go.Proofs.YtnkkaeblokdifaaGreat
open Go.RowKit
set_option maxRecDepth 100000
def accA:PY:=⟨[65],0,[67,65,83,72]⟩
def accB:PY:=⟨[66],0,[67,65,83,72]⟩
def L3:AT:=⟨1,0,1,[⟨accA,-5⟩,⟨accB,5⟩],[⟨[65],[66],5⟩],[]⟩
theorem RC:BI L3=0:=by decide
theorem V6:dltS L3=[(GH ⟨accA,-5⟩,-5),(GH ⟨accB,5⟩,5),(DU [65] [66],-5),(DU [66] [65],5),(E2 [65],-5),(E2 [66],5)]:=by decide
theorem TE:AU Tryz.prog 111 [.d (AG 1),.d (AG 5)] (.agg [AG 1,AG 0,AG 1,.sl none (L3.po.map Cf),.sl none (L3.pa.map Gl),.sl (some true) []]):=by
 refine BY Tryz.func111 Z Z Tryz.ntmps111 Z Z Z fun F hF=>(AF (AJ (U (Cm 1 Da Z Z Z Z) (AH (AF (AJ (J (Cu Nn RA Z Z Z) (J (Cu Nn RA Z Z Z) ?_))))))));refine U (Cm 2 Nn Z Z Z Z) (U (Cm 3 Nn Z Z Z Z) (U (Bj Z Z Z Z Z Z Z sz51) (U (Bj Z Z Z Z Z Z Z sz51) (AH (AF (AJ (AC Z Z (AC Z Z ?_))))))))
 first | refine J (An Z Z HJ rfl) ?_ | refine J (Ao Z Z HJ Z Z Z) ?_ | refine J (Ap Z Z (rfl) rfl HJ rfl) ?_
 refine AC Z Z (J (Ws rfl (show IntKind.i64.wrap (0 - 5)= -5 from by decide) rfl) (J (Cu Ja O6 Z Z Z) ?_))
 first | refine J (An Z Z HJ rfl) ?_ | refine J (Ao Z Z HJ Z Z Z) ?_ | refine J (Ap Z Z (rfl) rfl HJ rfl) ?_
 refine AC Z Z (J (Cu Ja O6 Z Z Z) (U (Fg 4 P9 Z Z Z Z Z Z Z Z) ?_));refine Zc8 (emb:=Cf) 18 4 L3.po Z Z Z Z Z Z Z (AC Z Z (J (Cu W6 pl135 Z Z Z) (U (Fg 5 Qo Z Z Z Z Z Z Z Z) (Zc8 (emb:=Gl) 21 5 L3.pa Z Z Z Z Z Z Z (J (Cu Da X0 Z Z Z) (U (Bj Z Z Z Z Z Z Z Br) (AH (Af ?_))))))));exact ⟨_,[],[],Ae rfl,rfl,rfl,rfl,rfl⟩
theorem V4:AU Tryz.prog 111 [.d (AG 1),.d (AG 5)] (Aw L3):=
 TE.weak fun w O v h=>h.aggMono rfl (by simp [D.one]) fun i c c' hc hc' v hv=>by
  match i,hc,hc' with
  | 0,hc,hc'=>injection hc with hc;injection hc' with hc';subst hc hc';exact hv
  | 1,hc,hc'=>injection hc with hc;injection hc' with hc';subst hc hc';exact hv
  | 2,hc,hc'=>injection hc with hc;injection hc' with hc';subst hc hc';exact hv
  | 3,hc,hc'=>injection hc with hc;injection hc' with hc';subst hc hc';exact hv
  | 4,hc,hc'=>injection hc with hc;injection hc' with hc';subst hc hc';exact hv
  | 5,hc,hc'=>injection hc with hc;injection hc' with hc';subst hc hc';exact hv.anyNil
theorem known_p:AU Tryz.prog 56 [] (.raw (.bool true)):=by
 have hd:=Rx L3 (by decide) (by decide) (by decide);rw [RC,V6] at hd;refine BY Tryz.func56 Z Z Tryz.ntmps56 Z Z Z fun F hF=>?_;refine AF (AJ (AD Z Z (AH (AF (AJ (J (BF (V4) Z Z) (J (BF (hd) Z Z) (AC Z Z ?_))))))))
 first | refine J (BT Z Z Z) ?_ | refine J (BS Z Z Z) ?_
 first | refine J (BT Z Z Z) ?_ | refine J (BS Z Z Z) ?_
 refine AD Z Z (AD Z Z (AH (AF (AJ (AC Z Z ?_)))))
 first | refine J (EP Z Z Z) ?_ | refine J (EW Z Z Z) ?_ | refine J (EA Z Z Z) ?_ | refine J (EQ Tryz.underlying34 Z Z Z) ?_ | refine J (ET Tryz.underlying34 Z Z Z) ?_ | refine J (ES Tryz.underlying34 Z Z) ?_ | refine J (ER Tryz.underlying34 Z Z Z) ?_ | refine J (EV Tryz.underlying34 Z Z) ?_
 refine AC Z Z (MS 10 rfl (rfl) (Ah Z Z Z (AC Z Z (Ah Z Z Z ?_))))
 first | refine J (Cc rfl Tryz.underlying44 rfl) ?_ | refine J (C8 Z Z Tryz.underlying44 rfl) ?_ | refine J (Cd rfl Tryz.underlying44 rfl) ?_ | refine J (Cb rfl Tryz.underlying44 rfl) ?_ | refine J (CW rfl Tryz.underlying44 rfl) ?_ | refine J (C9 rfl Tryz.underlying44 rfl) ?_
 refine Ah Z Z Z ?_
 first | refine J (EP Z Z Z) ?_ | refine J (EW Z Z Z) ?_ | refine J (EA Z Z Z) ?_ | refine J (EQ Tryz.underlying3 Z Z Z) ?_ | refine J (ET Tryz.underlying3 Z Z Z) ?_ | refine J (ES Tryz.underlying3 Z Z) ?_ | refine J (ER Tryz.underlying3 Z Z Z) ?_ | refine J (EV Tryz.underlying3 Z Z) ?_
 refine J (EB Z Z Z Z) (AC Z Z (MS 15 rfl (rfl) (Ah Z Z Z (AC Z Z (Ah Z Z Z ?_)))))
 first | refine J (CY (0) Z Z (rfl) (rfl) Tryz.underlying44 rfl Im rfl) ?_ | refine J (CZ (0) Z Z (rfl) (rfl) rfl Tryz.underlying44 Im rfl) ?_
 refine Ah Z Z Z ?_
 first | refine J (AO rfl J2 Z Z Z) ?_ | refine J (AQ rfl J2 Z Z Z) ?_ | refine J (AR rfl J2 Z Z Z) ?_ | refine J (AP rfl J2 Z Z Z) ?_ | refine J (AN rfl J2 Z Z Z) ?_
 refine Ah Z Z Z ?_
 first | refine J (A0 Z Z Be rfl) ?_ | refine J (AY Z Z Z Be rfl) ?_ | refine J (AZ Z Z (rfl) rfl Be rfl) ?_
 refine Ah Z Z Z ?_
 first | refine J (EP Z Z Z) ?_ | refine J (EW Z Z Z) ?_ | refine J (EA Z Z Z) ?_ | refine J (EQ Tryz.underlying2 Z Z Z) ?_ | refine J (ET Tryz.underlying2 Z Z Z) ?_ | refine J (ES Tryz.underlying2 Z Z) ?_ | refine J (ER Tryz.underlying2 Z Z Z) ?_ | refine J (EV Tryz.underlying2 Z Z) ?_
 refine J (EB Z Z Z Z) (AC Z Z (MS 22 rfl (rfl) (Ah Z Z Z (AC Z Z (Ah Z Z Z ?_)))))
 first | refine J (CY (1) Z Z (rfl) (rfl) Tryz.underlying44 rfl Im rfl) ?_ | refine J (CZ (1) Z Z (rfl) (rfl) rfl Tryz.underlying44 Im rfl) ?_
 refine Ah Z Z Z ?_
 first | refine J (AO rfl J2 Z Z Z) ?_ | refine J (AQ rfl J2 Z Z Z) ?_ | refine J (AR rfl J2 Z Z Z) ?_ | refine J (AP rfl J2 Z Z Z) ?_ | refine J (AN rfl J2 Z Z Z) ?_
 refine Ah Z Z Z ?_
 first | refine J (A0 Z Z Be rfl) ?_ | refine J (AY Z Z Z Be rfl) ?_ | refine J (AZ Z Z (rfl) rfl Be rfl) ?_
 refine Ah Z Z Z ?_
 first | refine J (EP Z Z Z) ?_ | refine J (EW Z Z Z) ?_ | refine J (EA Z Z Z) ?_ | refine J (EQ Tryz.underlying2 Z Z Z) ?_ | refine J (ET Tryz.underlying2 Z Z Z) ?_ | refine J (ES Tryz.underlying2 Z Z) ?_ | refine J (ER Tryz.underlying2 Z Z Z) ?_ | refine J (EV Tryz.underlying2 Z Z) ?_
 refine J (EB Z Z Z Z) (AC Z Z (MS 29 rfl (rfl) (Ah Z Z Z (AC Z Z (Ah Z Z Z ?_)))))
 first | refine J (CY (2) Z Z (rfl) (rfl) Tryz.underlying44 rfl Im rfl) ?_ | refine J (CZ (2) Z Z (rfl) (rfl) rfl Tryz.underlying44 Im rfl) ?_
 refine Ah Z Z Z ?_
 first | refine J (AO rfl J2 Z Z Z) ?_ | refine J (AQ rfl J2 Z Z Z) ?_ | refine J (AR rfl J2 Z Z Z) ?_ | refine J (AP rfl J2 Z Z Z) ?_ | refine J (AN rfl J2 Z Z Z) ?_
 refine Ah Z Z Z ?_
 first | refine J (A0 Z Z Be rfl) ?_ | refine J (AY Z Z Z Be rfl) ?_ | refine J (AZ Z Z (rfl) rfl Be rfl) ?_
 refine Ah Z Z Z ?_
 first | refine J (EP Z Z Z) ?_ | refine J (EW Z Z Z) ?_ | refine J (EA Z Z Z) ?_ | refine J (EQ Tryz.underlying2 Z Z Z) ?_ | refine J (ET Tryz.underlying2 Z Z Z) ?_ | refine J (ES Tryz.underlying2 Z Z) ?_ | refine J (ER Tryz.underlying2 Z Z Z) ?_ | refine J (EV Tryz.underlying2 Z Z) ?_
 refine J (EB Z Z Z Z) (AC Z Z (MS 36 rfl (rfl) (Ah Z Z Z (AC Z Z (Ah Z Z Z ?_)))))
 first | refine J (CY (3) Z Z (rfl) (rfl) Tryz.underlying44 rfl Im rfl) ?_ | refine J (CZ (3) Z Z (rfl) (rfl) rfl Tryz.underlying44 Im rfl) ?_
 refine Ah Z Z Z ?_
 first | refine J (AO rfl J2 Z Z Z) ?_ | refine J (AQ rfl J2 Z Z Z) ?_ | refine J (AR rfl J2 Z Z Z) ?_ | refine J (AP rfl J2 Z Z Z) ?_ | refine J (AN rfl J2 Z Z Z) ?_
 refine Ah Z Z Z ?_
 first | refine J (A0 Z Z Be rfl) ?_ | refine J (AY Z Z Z Be rfl) ?_ | refine J (AZ Z Z (rfl) rfl Be rfl) ?_
 refine Ah Z Z Z ?_
 first | refine J (EP Z Z Z) ?_ | refine J (EW Z Z Z) ?_ | refine J (EA Z Z Z) ?_ | refine J (EQ Tryz.underlying2 Z Z Z) ?_ | refine J (ET Tryz.underlying2 Z Z Z) ?_ | refine J (ES Tryz.underlying2 Z Z) ?_ | refine J (ER Tryz.underlying2 Z Z Z) ?_ | refine J (EV Tryz.underlying2 Z Z) ?_
 refine J (EB Z Z Z Z) (AC Z Z (MS 43 rfl (rfl) (Ah Z Z Z (AC Z Z (Ah Z Z Z ?_)))))
 first | refine J (CY (4) Z Z (rfl) (rfl) Tryz.underlying44 rfl Im rfl) ?_ | refine J (CZ (4) Z Z (rfl) (rfl) rfl Tryz.underlying44 Im rfl) ?_
 refine Ah Z Z Z ?_
 first | refine J (AO rfl J2 Z Z Z) ?_ | refine J (AQ rfl J2 Z Z Z) ?_ | refine J (AR rfl J2 Z Z Z) ?_ | refine J (AP rfl J2 Z Z Z) ?_ | refine J (AN rfl J2 Z Z Z) ?_
 refine Ah Z Z Z ?_
 first | refine J (A0 Z Z Be rfl) ?_ | refine J (AY Z Z Z Be rfl) ?_ | refine J (AZ Z Z (rfl) rfl Be rfl) ?_
 refine Ah Z Z Z ?_
 first | refine J (EP Z Z Z) ?_ | refine J (EW Z Z Z) ?_ | refine J (EA Z Z Z) ?_ | refine J (EQ Tryz.underlying2 Z Z Z) ?_ | refine J (ET Tryz.underlying2 Z Z Z) ?_ | refine J (ES Tryz.underlying2 Z Z) ?_ | refine J (ER Tryz.underlying2 Z Z Z) ?_ | refine J (EV Tryz.underlying2 Z Z) ?_
 refine J (EB Z Z Z Z) (AC Z Z (MS 50 rfl (rfl) (Ah Z Z Z (AC Z Z (Ah Z Z Z ?_)))))
 first | refine J (CY (5) Z Z (rfl) (rfl) Tryz.underlying44 rfl Im rfl) ?_ | refine J (CZ (5) Z Z (rfl) (rfl) rfl Tryz.underlying44 Im rfl) ?_
 refine Ah Z Z Z ?_
 first | refine J (AO rfl PR Z Z Z) ?_ | refine J (AQ rfl PR Z Z Z) ?_ | refine J (AR rfl PR Z Z Z) ?_ | refine J (AP rfl PR Z Z Z) ?_ | refine J (AN rfl PR Z Z Z) ?_
 refine Ah Z Z Z ?_
 first | refine J (AO rfl FX Z Z Z) ?_ | refine J (AQ rfl FX Z Z Z) ?_ | refine J (AR rfl FX Z Z Z) ?_ | refine J (AP rfl FX Z Z Z) ?_ | refine J (AN rfl FX Z Z Z) ?_
 refine Ah Z Z Z ?_
 first | refine J (A0 Z Z Ay rfl) ?_ | refine J (AY Z Z Z Ay rfl) ?_ | refine J (AZ Z Z (rfl) rfl Ay rfl) ?_
 refine Ah Z Z Z ?_
 first | refine J (EP Z Z Z) ?_ | refine J (EW Z Z Z) ?_ | refine J (EA Z Z Z) ?_ | refine J (EQ Tryz.underlying9 Z Z Z) ?_ | refine J (ET Tryz.underlying9 Z Z Z) ?_ | refine J (ES Tryz.underlying9 Z Z) ?_ | refine J (ER Tryz.underlying9 Z Z Z) ?_ | refine J (EV Tryz.underlying9 Z Z) ?_
 refine J (EB Z Z Z Z) (AD Z Z (AH (Af ?_)));exact ⟨_,[],[],Ae rfl,rfl,rfl,rfl,rfl⟩
theorem RG (r:A4):AU Tryz.prog 22 [.d (D5 r)] (D5 r):=by
 refine BY Tryz.func22 Z Z Tryz.ntmps22 Z Z Z fun F hF=>(AF (AJ (U (CJ 1 Z Z Z Z Z Z Z) (U (Cm 2 Gf Z Z Z Z) (AH (AF (AJ ?_)))))))
 first | refine J (AO rfl NX Z Z Z) ?_ | refine J (AQ rfl NX Z Z Z) ?_ | refine J (AR rfl NX Z Z Z) ?_ | refine J (AP rfl NX Z Z Z) ?_ | refine J (AN rfl NX Z Z Z) ?_
 first | refine J (A0 Z Z A9 rfl) ?_ | refine J (AY Z Z Z A9 rfl) ?_ | refine J (AZ Z Z (rfl) rfl A9 rfl) ?_
 first | refine J (AO rfl NW Z Z Z) ?_ | refine J (AQ rfl NW Z Z Z) ?_ | refine J (AR rfl NW Z Z Z) ?_ | refine J (AP rfl NW Z Z Z) ?_ | refine J (AN rfl NW Z Z Z) ?_
 first | refine J (An Z Z Pb rfl) ?_ | refine J (Ao Z Z Pb Z Z Z) ?_ | refine J (Ap Z Z (rfl) rfl Pb rfl) ?_
 first | refine J (AO rfl NV Z Z Z) ?_ | refine J (AQ rfl NV Z Z Z) ?_ | refine J (AR rfl NV Z Z Z) ?_ | refine J (AP rfl NV Z Z Z) ?_ | refine J (AN rfl NV Z Z Z) ?_
 first | refine J (A0 Z Z Ay rfl) ?_ | refine J (AY Z Z Z Ay rfl) ?_ | refine J (AZ Z Z (rfl) rfl Ay rfl) ?_
 first | refine J (AO rfl NU Z Z Z) ?_ | refine J (AQ rfl NU Z Z Z) ?_ | refine J (AR rfl NU Z Z Z) ?_ | refine J (AP rfl NU Z Z Z) ?_ | refine J (AN rfl NU Z Z Z) ?_
 first | refine J (A0 Z Z Ay rfl) ?_ | refine J (AY Z Z Z Ay rfl) ?_ | refine J (AZ Z Z (rfl) rfl Ay rfl) ?_
 refine J (Cu Gf Jy Z Z Z) (U (Bj Z Z Z Z Z Z Z Wg) (AH (Af ?_)));exact ⟨_,[],[],Ae rfl,rfl,rfl,rfl,rfl⟩
theorem MD {α:Type} {acc l:List α} (h:acc=l.take acc.length) (hk:acc.length<l.length):acc++ [l[acc.length]]=l.take (acc++ [l[acc.length]]).length:=by
 rw [List.length_append,List.length_singleton,List.take_succ_eq_append_getElem hk,←h]
theorem P2 {α:Type} {acc l:List α} (h:acc=l.take acc.length) (hk:¬acc.length<l.length):acc=l:=by
 rw [h];exact List.take_of_length_le (by omega)
theorem Q8 {α:Type} (acc:List α) (x:α) (h:acc.length<9223372036854775807):IntKind.i64.wrap ((acc.length:Int)+1)=(((acc++ [x]).length:Nat):Int):=by
 rw [List.length_append];exact A6 (acc.length+1) (by omega)
abbrev HP:AV:= .d (.sl (some true) [])
theorem O9 (i:AT) (g1:i.po.length≤10000) (g2:i.pa.length≤10000) (g3:i.af.length≤10000):AU Tryz.prog 23 [.d (Aw i)] (Aw i):=by
 refine BY Tryz.func23 Z Z Tryz.ntmps23 Z Z Z fun F hF=>(AF (AJ (U (CJ 1 Z Z Z Z Z Z Z) (U (Cm 2 Da Z Z Z Z) (AH (AF (G8 [[],[0],[],[2],[],[4],[],[],[7],[6,7,8],[0,1,2,3,4,5,6,7,8,9],[],[0,1,2,3,4,5,6,7,8,9,10,11]] BC rfl (Hq ?_))))))))
 first | refine AE [1] [] Z Z (fun _=>AB (AO rfl Fq Z Z Z)) ?_ | refine AI [1] Z Z (fun _=>AB (AO rfl Fq Z Z Z)) ?_ | refine AE [1] [] Z Z (fun _=>AB (AQ rfl Fq Z Z Z)) ?_ | refine AI [1] Z Z (fun _=>AB (AQ rfl Fq Z Z Z)) ?_ | refine AE [1] [] Z Z (fun _=>AB (AR rfl Fq Z Z Z)) ?_ | refine AI [1] Z Z (fun _=>AB (AR rfl Fq Z Z Z)) ?_ | refine AE [1] [] Z Z (fun _=>AB (AP rfl Fq Z Z Z)) ?_ | refine AI [1] Z Z (fun _=>AB (AP rfl Fq Z Z Z)) ?_ | refine AE [1] [] Z Z (fun _=>AB (AN rfl Fq Z Z Z)) ?_ | refine AI [1] Z Z (fun _=>AB (AN rfl Fq Z Z Z)) ?_
 first | refine AE [6] [] Z Z (fun _=>AB (A0 Z Z A9 rfl)) ?_ | refine AI [6] Z Z (fun _=>AB (A0 Z Z A9 rfl)) ?_ | refine AE [6] [] Z Z (fun _=>AB (AY Z Z Z A9 rfl)) ?_ | refine AI [6] Z Z (fun _=>AB (AY Z Z Z A9 rfl)) ?_ | refine AE [6] [] Z Z (fun _=>AB (AZ Z Z (rfl) rfl A9 rfl)) ?_ | refine AI [6] Z Z (fun _=>AB (AZ Z Z (rfl) rfl A9 rfl)) ?_
 first | refine AE [1] [] Z Z (fun _=>AB (AO rfl Fp Z Z Z)) ?_ | refine AI [1] Z Z (fun _=>AB (AO rfl Fp Z Z Z)) ?_ | refine AE [1] [] Z Z (fun _=>AB (AQ rfl Fp Z Z Z)) ?_ | refine AI [1] Z Z (fun _=>AB (AQ rfl Fp Z Z Z)) ?_ | refine AE [1] [] Z Z (fun _=>AB (AR rfl Fp Z Z Z)) ?_ | refine AI [1] Z Z (fun _=>AB (AR rfl Fp Z Z Z)) ?_ | refine AE [1] [] Z Z (fun _=>AB (AP rfl Fp Z Z Z)) ?_ | refine AI [1] Z Z (fun _=>AB (AP rfl Fp Z Z Z)) ?_ | refine AE [1] [] Z Z (fun _=>AB (AN rfl Fp Z Z Z)) ?_ | refine AI [1] Z Z (fun _=>AB (AN rfl Fp Z Z Z)) ?_
 first | refine AE [8] [] Z Z (fun _=>AB (A0 Z Z A9 rfl)) ?_ | refine AI [8] Z Z (fun _=>AB (A0 Z Z A9 rfl)) ?_ | refine AE [8] [] Z Z (fun _=>AB (AY Z Z Z A9 rfl)) ?_ | refine AI [8] Z Z (fun _=>AB (AY Z Z Z A9 rfl)) ?_ | refine AE [8] [] Z Z (fun _=>AB (AZ Z Z (rfl) rfl A9 rfl)) ?_ | refine AI [8] Z Z (fun _=>AB (AZ Z Z (rfl) rfl A9 rfl)) ?_
 first | refine AE [1] [] Z Z (fun _=>AB (AO rfl Fo Z Z Z)) ?_ | refine AI [1] Z Z (fun _=>AB (AO rfl Fo Z Z Z)) ?_ | refine AE [1] [] Z Z (fun _=>AB (AQ rfl Fo Z Z Z)) ?_ | refine AI [1] Z Z (fun _=>AB (AQ rfl Fo Z Z Z)) ?_ | refine AE [1] [] Z Z (fun _=>AB (AR rfl Fo Z Z Z)) ?_ | refine AI [1] Z Z (fun _=>AB (AR rfl Fo Z Z Z)) ?_ | refine AE [1] [] Z Z (fun _=>AB (AP rfl Fo Z Z Z)) ?_ | refine AI [1] Z Z (fun _=>AB (AP rfl Fo Z Z Z)) ?_ | refine AE [1] [] Z Z (fun _=>AB (AN rfl Fo Z Z Z)) ?_ | refine AI [1] Z Z (fun _=>AB (AN rfl Fo Z Z Z)) ?_
 first | refine AE [10] [] Z Z (fun _=>AB (A0 Z Z A9 rfl)) ?_ | refine AI [10] Z Z (fun _=>AB (A0 Z Z A9 rfl)) ?_ | refine AE [10] [] Z Z (fun _=>AB (AY Z Z Z A9 rfl)) ?_ | refine AI [10] Z Z (fun _=>AB (AY Z Z Z A9 rfl)) ?_ | refine AE [10] [] Z Z (fun _=>AB (AZ Z Z (rfl) rfl A9 rfl)) ?_ | refine AI [10] Z Z (fun _=>AB (AZ Z Z (rfl) rfl A9 rfl)) ?_
 refine Fw [] [3] [(12,_)] Z Z (fun _=>Fx (Fg 3 DA Z Z Z Z Z Z Z Z)) (.inr ⟨12,_,rfl,rfl,rfl,rfl,rfl⟩) Z Z Z Z Z ?_
 first | refine AE [1] [] Z Z (fun _=>AB (AO rfl DJ Z Z Z)) ?_ | refine AI [1] Z Z (fun _=>AB (AO rfl DJ Z Z Z)) ?_ | refine AE [1] [] Z Z (fun _=>AB (AQ rfl DJ Z Z Z)) ?_ | refine AI [1] Z Z (fun _=>AB (AQ rfl DJ Z Z Z)) ?_ | refine AE [1] [] Z Z (fun _=>AB (AR rfl DJ Z Z Z)) ?_ | refine AI [1] Z Z (fun _=>AB (AR rfl DJ Z Z Z)) ?_ | refine AE [1] [] Z Z (fun _=>AB (AP rfl DJ Z Z Z)) ?_ | refine AI [1] Z Z (fun _=>AB (AP rfl DJ Z Z Z)) ?_ | refine AE [1] [] Z Z (fun _=>AB (AN rfl DJ Z Z Z)) ?_ | refine AI [1] Z Z (fun _=>AB (AN rfl DJ Z Z Z)) ?_
 first | refine AE [13] [] Z Z (fun _=>AB (A0 Z Z Aq rfl)) ?_ | refine AI [13] Z Z (fun _=>AB (A0 Z Z Aq rfl)) ?_ | refine AE [13] [] Z Z (fun _=>AB (AY Z Z Z Aq rfl)) ?_ | refine AI [13] Z Z (fun _=>AB (AY Z Z Z Aq rfl)) ?_ | refine AE [13] [] Z Z (fun _=>AB (AZ Z Z (rfl) rfl Aq rfl)) ?_ | refine AI [13] Z Z (fun _=>AB (AZ Z Z (rfl) rfl Aq rfl)) ?_
 first | refine Fw [12,14] [3] [(15,_)] Z Z (fun _=>Fx (Ib (([]:List Int)) (i.af) Z Z Z Z Z Z Z Z DA (by simp only [List.length_nil];omega) Z Z Z Z)) (.inr ⟨15,_,rfl,rfl,rfl,rfl,rfl⟩) Z Z Z Z Z ?_ | refine Fw [12,14] [3] [(15,_)] Z Z (fun _=>Fx (Ka (([]:List Int)) (i.af) Z Z Z Z Z Z (fun _=>rfl) DA (by simp only [List.length_nil];omega) Z Z Z Z)) (.inr ⟨15,_,rfl,rfl,rfl,rfl,rfl⟩) Z Z Z Z Z ?_
 first | refine AE [7,9,11,15] [] Z Z (fun _=>AB (Cu Da X0 Z Z Z)) ?_ | refine AI [7,9,11,15] Z Z (fun _=>AB (Cu Da X0 Z Z Z)) ?_
 refine Fw [] [4] [(3,_)] Z Z (fun _=>Fx (Cm 4 Da Z Z Z Z)) (.inr ⟨3,_,rfl,rfl,rfl,rfl,rfl⟩) Z Z Z Z Z (GZ 12 Z Z Z (BD 13 Z Z (U (Bj Z Z Z Z Z Z Z Br) (AH ⟨rfl,?_⟩))));refine GY ?_;refine AF (AF (WU (ys:=i.af.map AG) 4 0 5 3 Z Z Z (by simp) (List.take_of_length_le (by simp)) Z Z Z Z Z Z (Yx 4 0 3 901 P9 Z Z Z Z Z Z Z (AJ (AD Z Z (AH (Au (De (α:=List Er) (fun acc=>⟨60,[(1,(.ptr 1 0 0)),(2,(.ptr 2 0 0)),(3,(.ptr 4 0 0)),(4,(.d (AG (acc.length:Int))))],[(901,[.rowD 125 4 (acc.map Cf)]),(1,[.blk 72 [.d (AG i.id),.d (AG i.pr),.d (AG i.sq),.d (.sl none (i.po.map Cf)),.d (.sl none (i.pa.map Gl)),.d (.sl none (i.af.map AG))]]),(2,[.blk 49 [.d (AG 0),.d (AG 0),.d (AG 0),HP,HP,HP]]),(4,[.blk 49 [.d (AG i.id),.d (AG i.pr),.d (AG i.sq),.own 901 0 acc.length,HP,.d (.sl none (i.af.map AG))]])]⟩) (fun acc=>acc=i.po.take acc.length∧acc.length≤i.po.length) (fun acc=>i.po.length - acc.length) ([]) (⟨by simp,Nat.zero_le _⟩) (BP hF [901,1,2,4] Z Z ⟨rfl,rfl,rfl,rfl,trivial⟩) ?_))))))));rintro acc ⟨hI,hk0⟩;refine AF (AF (AJ (AC Z Z ?_)))
 first | refine J (AO rfl J3 Z Z Z) ?_ | refine J (AQ rfl J3 Z Z Z) ?_ | refine J (AR rfl J3 Z Z Z) ?_ | refine J (AP rfl J3 Z Z Z) ?_ | refine J (AN rfl J3 Z Z Z) ?_
 first | refine J (A0 Z Z HL rfl) ?_ | refine J (AY Z Z Z HL rfl) ?_ | refine J (AZ Z Z (rfl) rfl HL rfl) ?_
 first | refine J (Cc rfl Tryz.underlying69 rfl) ?_ | refine J (C8 Z Z Tryz.underlying69 rfl) ?_ | refine J (Cd rfl Tryz.underlying69 rfl) ?_ | refine J (Cb rfl Tryz.underlying69 rfl) ?_ | refine J (CW rfl Tryz.underlying69 rfl) ?_ | refine J (C9 rfl Tryz.underlying69 rfl) ?_
 first | refine J (C7 Z Z Z) ?_ | refine J (Ca Z Z Z) ?_
 refine AH ?_
 first | refine BJ rfl (fun h21=>?_) (fun h21=>?_) | refine BB rfl (fun h21=>?_) (fun h21=>?_)
 ·have hk1:acc.length<i.po.length:=DZ h21;refine Am (AF (Au (G8 [[],[0],[],[2],[],[2,3,4],[2,3,4,5],[2,3,4,5,6],[],[8],[],[8,9,10],[8,9,10,11],[8,9,10,11,12],[2,3,4,5,6,7,8,9,10,11,12,13],[2,3,4,5,6,7,8,9,10,11,12,13,14],[0,1,2,3,4,5,6,7,8,9,10,11,12,13,14,15],[0,1,2,3,4,5,6,7,8,9,10,11,12,13,14,15,16],[0,1,2,3,4,5,6,7,8,9,10,11,12,13,14,15,16,17]] BC rfl (Hq ?_))))
  first | refine AE [3] [] Z Z (fun _=>AB (AO rfl C1 Z Z Z)) ?_ | refine AI [3] Z Z (fun _=>AB (AO rfl C1 Z Z Z)) ?_ | refine AE [3] [] Z Z (fun _=>AB (AQ rfl C1 Z Z Z)) ?_ | refine AI [3] Z Z (fun _=>AB (AQ rfl C1 Z Z Z)) ?_ | refine AE [3] [] Z Z (fun _=>AB (AR rfl C1 Z Z Z)) ?_ | refine AI [3] Z Z (fun _=>AB (AR rfl C1 Z Z Z)) ?_ | refine AE [3] [] Z Z (fun _=>AB (AP rfl C1 Z Z Z)) ?_ | refine AI [3] Z Z (fun _=>AB (AP rfl C1 Z Z Z)) ?_ | refine AE [3] [] Z Z (fun _=>AB (AN rfl C1 Z Z Z)) ?_ | refine AI [3] Z Z (fun _=>AB (AN rfl C1 Z Z Z)) ?_
  first | refine AE [24] [] Z Z (fun _=>AB (A0 Z Z Ej rfl)) ?_ | refine AI [24] Z Z (fun _=>AB (A0 Z Z Ej rfl)) ?_ | refine AE [24] [] Z Z (fun _=>AB (AY Z Z Z Ej rfl)) ?_ | refine AI [24] Z Z (fun _=>AB (AY Z Z Z Ej rfl)) ?_ | refine AE [24] [] Z Z (fun _=>AB (AZ Z Z (rfl) rfl Ej rfl)) ?_ | refine AI [24] Z Z (fun _=>AB (AZ Z Z (rfl) rfl Ej rfl)) ?_
  first | refine AE [1] [] Z Z (fun _=>AB (AO rfl J3 Z Z Z)) ?_ | refine AI [1] Z Z (fun _=>AB (AO rfl J3 Z Z Z)) ?_ | refine AE [1] [] Z Z (fun _=>AB (AQ rfl J3 Z Z Z)) ?_ | refine AI [1] Z Z (fun _=>AB (AQ rfl J3 Z Z Z)) ?_ | refine AE [1] [] Z Z (fun _=>AB (AR rfl J3 Z Z Z)) ?_ | refine AI [1] Z Z (fun _=>AB (AR rfl J3 Z Z Z)) ?_ | refine AE [1] [] Z Z (fun _=>AB (AP rfl J3 Z Z Z)) ?_ | refine AI [1] Z Z (fun _=>AB (AP rfl J3 Z Z Z)) ?_ | refine AE [1] [] Z Z (fun _=>AB (AN rfl J3 Z Z Z)) ?_ | refine AI [1] Z Z (fun _=>AB (AN rfl J3 Z Z Z)) ?_
  first | refine AE [26] [] Z Z (fun _=>AB (A0 Z Z HL rfl)) ?_ | refine AI [26] Z Z (fun _=>AB (A0 Z Z HL rfl)) ?_ | refine AE [26] [] Z Z (fun _=>AB (AY Z Z Z HL rfl)) ?_ | refine AI [26] Z Z (fun _=>AB (AY Z Z Z HL rfl)) ?_ | refine AE [26] [] Z Z (fun _=>AB (AZ Z Z (rfl) rfl HL rfl)) ?_ | refine AI [26] Z Z (fun _=>AB (AZ Z Z (rfl) rfl HL rfl)) ?_
  first | refine AE [4] [] Z Z (fun _=>AB (B7 Z Z)) ?_ | refine AI [4] Z Z (fun _=>AB (B7 Z Z)) ?_
  first | refine AE [27,28] [] Z Z (fun _=>AB (CY (acc.length) Z Z (rfl) (A2 hk1) Tryz.underlying69 rfl LV rfl)) ?_ | refine AI [27,28] Z Z (fun _=>AB (CY (acc.length) Z Z (rfl) (A2 hk1) Tryz.underlying69 rfl LV rfl)) ?_ | refine AE [27,28] [] Z Z (fun _=>AB (CZ (acc.length) Z Z (rfl) (A2 hk1) rfl Tryz.underlying69 LV rfl)) ?_ | refine AI [27,28] Z Z (fun _=>AB (CZ (acc.length) Z Z (rfl) (A2 hk1) rfl Tryz.underlying69 LV rfl)) ?_
  first | refine AE [29] [] Z Z (fun _=>AB (AO rfl EL Z Z Z)) ?_ | refine AI [29] Z Z (fun _=>AB (AO rfl EL Z Z Z)) ?_ | refine AE [29] [] Z Z (fun _=>AB (AQ rfl EL Z Z Z)) ?_ | refine AI [29] Z Z (fun _=>AB (AQ rfl EL Z Z Z)) ?_ | refine AE [29] [] Z Z (fun _=>AB (AR rfl EL Z Z Z)) ?_ | refine AI [29] Z Z (fun _=>AB (AR rfl EL Z Z Z)) ?_ | refine AE [29] [] Z Z (fun _=>AB (AP rfl EL Z Z Z)) ?_ | refine AI [29] Z Z (fun _=>AB (AP rfl EL Z Z Z)) ?_ | refine AE [29] [] Z Z (fun _=>AB (AN rfl EL Z Z Z)) ?_ | refine AI [29] Z Z (fun _=>AB (AN rfl EL Z Z Z)) ?_
  first | refine AE [30] [] Z Z (fun _=>AB (An Z Z Pb rfl)) ?_ | refine AI [30] Z Z (fun _=>AB (An Z Z Pb rfl)) ?_ | refine AE [30] [] Z Z (fun _=>AB (Ao Z Z Pb Z Z Z)) ?_ | refine AI [30] Z Z (fun _=>AB (Ao Z Z Pb Z Z Z)) ?_ | refine AE [30] [] Z Z (fun _=>AB (Ap Z Z (rfl) rfl Pb rfl)) ?_ | refine AI [30] Z Z (fun _=>AB (Ap Z Z (rfl) rfl Pb rfl)) ?_
  first | refine AE [1] [] Z Z (fun _=>AB (AO rfl J3 Z Z Z)) ?_ | refine AI [1] Z Z (fun _=>AB (AO rfl J3 Z Z Z)) ?_ | refine AE [1] [] Z Z (fun _=>AB (AQ rfl J3 Z Z Z)) ?_ | refine AI [1] Z Z (fun _=>AB (AQ rfl J3 Z Z Z)) ?_ | refine AE [1] [] Z Z (fun _=>AB (AR rfl J3 Z Z Z)) ?_ | refine AI [1] Z Z (fun _=>AB (AR rfl J3 Z Z Z)) ?_ | refine AE [1] [] Z Z (fun _=>AB (AP rfl J3 Z Z Z)) ?_ | refine AI [1] Z Z (fun _=>AB (AP rfl J3 Z Z Z)) ?_ | refine AE [1] [] Z Z (fun _=>AB (AN rfl J3 Z Z Z)) ?_ | refine AI [1] Z Z (fun _=>AB (AN rfl J3 Z Z Z)) ?_
  first | refine AE [32] [] Z Z (fun _=>AB (A0 Z Z HL rfl)) ?_ | refine AI [32] Z Z (fun _=>AB (A0 Z Z HL rfl)) ?_ | refine AE [32] [] Z Z (fun _=>AB (AY Z Z Z HL rfl)) ?_ | refine AI [32] Z Z (fun _=>AB (AY Z Z Z HL rfl)) ?_ | refine AE [32] [] Z Z (fun _=>AB (AZ Z Z (rfl) rfl HL rfl)) ?_ | refine AI [32] Z Z (fun _=>AB (AZ Z Z (rfl) rfl HL rfl)) ?_
  first | refine AE [4] [] Z Z (fun _=>AB (B7 Z Z)) ?_ | refine AI [4] Z Z (fun _=>AB (B7 Z Z)) ?_
  first | refine AE [33,34] [] Z Z (fun _=>AB (CY (acc.length) Z Z (rfl) (A2 hk1) Tryz.underlying69 rfl LV rfl)) ?_ | refine AI [33,34] Z Z (fun _=>AB (CY (acc.length) Z Z (rfl) (A2 hk1) Tryz.underlying69 rfl LV rfl)) ?_ | refine AE [33,34] [] Z Z (fun _=>AB (CZ (acc.length) Z Z (rfl) (A2 hk1) rfl Tryz.underlying69 LV rfl)) ?_ | refine AI [33,34] Z Z (fun _=>AB (CZ (acc.length) Z Z (rfl) (A2 hk1) rfl Tryz.underlying69 LV rfl)) ?_
  first | refine AE [35] [] Z Z (fun _=>AB (AO rfl EK Z Z Z)) ?_ | refine AI [35] Z Z (fun _=>AB (AO rfl EK Z Z Z)) ?_ | refine AE [35] [] Z Z (fun _=>AB (AQ rfl EK Z Z Z)) ?_ | refine AI [35] Z Z (fun _=>AB (AQ rfl EK Z Z Z)) ?_ | refine AE [35] [] Z Z (fun _=>AB (AR rfl EK Z Z Z)) ?_ | refine AI [35] Z Z (fun _=>AB (AR rfl EK Z Z Z)) ?_ | refine AE [35] [] Z Z (fun _=>AB (AP rfl EK Z Z Z)) ?_ | refine AI [35] Z Z (fun _=>AB (AP rfl EK Z Z Z)) ?_ | refine AE [35] [] Z Z (fun _=>AB (AN rfl EK Z Z Z)) ?_ | refine AI [35] Z Z (fun _=>AB (AN rfl EK Z Z Z)) ?_
  first | refine AE [36] [] Z Z (fun _=>AB (A0 Z Z Be rfl)) ?_ | refine AI [36] Z Z (fun _=>AB (A0 Z Z Be rfl)) ?_ | refine AE [36] [] Z Z (fun _=>AB (AY Z Z Z Be rfl)) ?_ | refine AI [36] Z Z (fun _=>AB (AY Z Z Z Be rfl)) ?_ | refine AE [36] [] Z Z (fun _=>AB (AZ Z Z (rfl) rfl Be rfl)) ?_ | refine AI [36] Z Z (fun _=>AB (AZ Z Z (rfl) rfl Be rfl)) ?_
  first | refine AE [31,37] [] Z Z (fun _=>AB (Cu Ja O6 Z Z Z)) ?_ | refine AI [31,37] Z Z (fun _=>AB (Cu Ja O6 Z Z Z)) ?_
  refine Fw [38] [5] [(39,_)] Z Z (fun _=>Fx (Fg 5 P9 Z Z Z Z Z Z Z Z)) (.inr ⟨39,_,rfl,rfl,rfl,rfl,rfl⟩) Z Z Z Z Z (GZ 16 Z Z Z (BD 17 Z Z ?_))
  first | refine U (Ib (acc) ([i.po[acc.length]]) Z Z Z Z Z Z Z Z P9 (by simp only [List.length_singleton];omega) Z Z Z Z) ?_ | refine U (Ka (acc) ([i.po[acc.length]]) Z Z Z Z Z Z (fun _=>rfl) P9 (by simp only [List.length_singleton];omega) Z Z Z Z) ?_
  refine AH ⟨rfl,?_⟩;refine BD 18 Z Z ?_
  first | refine J (AO rfl C1 Z Z Z) ?_ | refine J (AQ rfl C1 Z Z Z) ?_ | refine J (AR rfl C1 Z Z Z) ?_ | refine J (AP rfl C1 Z Z Z) ?_ | refine J (AN rfl C1 Z Z Z) ?_
  refine AH ⟨rfl,?_⟩;refine BD 19 Z Z (U (Bj Z Z Z Z Z Z Z sz46) (AH ⟨rfl,?_⟩));refine GY (AJ (AC Z Z (J (Bi Z Z (Q8 acc i.po[acc.length] (by omega)) rfl) (AD Z Z (AH ?_)))));exact ⟨acc++ [i.po[acc.length]],⟨MD hI hk1,by rw [List.length_append];show acc.length+1≤_;omega⟩,by rw [List.length_append];show i.po.length - (acc.length+1)<i.po.length - acc.length;omega,BP hF [901,1,2,4] rfl (rfl) ⟨rfl,rfl,rfl,rfl,trivial⟩⟩
 ·refine C6 (AF (AF ?_));have hacc:=P2 hI (fun h=>h21 (by omega));refine WU (ys:=i.po.map Cf) 4 0 3 901 Z Z Z (by simp) (by rw [hacc];exact List.take_of_length_le (by simp)) Z Z Z Z Z Z (Yx 4 0 4 902 Qo Z Z Z Z Z Z Z (AJ (AD Z Z (AH (Au (De (α:=List Lo) (fun acc2=>⟨60,[(1,(.ptr 1 0 0)),(2,(.ptr 2 0 0)),(3,(.ptr 4 0 0)),(5,(.d (AG (acc2.length:Int))))],[(902,[.rowD 135 3 (acc2.map Gl)]),(1,[.blk 72 [.d (AG i.id),.d (AG i.pr),.d (AG i.sq),.d (.sl none (i.po.map Cf)),.d (.sl none (i.pa.map Gl)),.d (.sl none (i.af.map AG))]]),(2,[.blk 49 [.d (AG 0),.d (AG 0),.d (AG 0),HP,HP,HP]]),(4,[.blk 49 [.d (AG i.id),.d (AG i.pr),.d (AG i.sq),.d (.sl none (i.po.map Cf)),.own 902 0 acc2.length,.d (.sl none (i.af.map AG))]])]⟩) (fun acc2=>acc2=i.pa.take acc2.length∧acc2.length≤i.pa.length) (fun acc2=>i.pa.length - acc2.length) ([]) (⟨by simp,Nat.zero_le _⟩) (BP hF [902,1,2,4] Z Z ⟨rfl,rfl,rfl,rfl,trivial⟩) ?_))))));rintro acc2 ⟨hJ,hk2⟩;refine AF (AF (AJ (AC Z Z ?_)))
  first | refine J (AO rfl PS Z Z Z) ?_ | refine J (AQ rfl PS Z Z Z) ?_ | refine J (AR rfl PS Z Z Z) ?_ | refine J (AP rfl PS Z Z Z) ?_ | refine J (AN rfl PS Z Z Z) ?_
  first | refine J (A0 Z Z Lu rfl) ?_ | refine J (AY Z Z Z Lu rfl) ?_ | refine J (AZ Z Z (rfl) rfl Lu rfl) ?_
  first | refine J (Cc rfl Tryz.underlying70 rfl) ?_ | refine J (C8 Z Z Tryz.underlying70 rfl) ?_ | refine J (Cd rfl Tryz.underlying70 rfl) ?_ | refine J (Cb rfl Tryz.underlying70 rfl) ?_ | refine J (CW rfl Tryz.underlying70 rfl) ?_ | refine J (C9 rfl Tryz.underlying70 rfl) ?_
  first | refine J (C7 Z Z Z) ?_ | refine J (Ca Z Z Z) ?_
  refine AH ?_
  first | refine BJ rfl (fun h46=>?_) (fun h46=>?_) | refine BB rfl (fun h46=>?_) (fun h46=>?_)
  ·have hk3:acc2.length<i.pa.length:=DZ h46;refine Am (AF (Au (G8 [[],[0],[],[2],[],[2,3,4],[2,3,4,5],[2,3,4,5,6],[0,1,2,3,4,5,6,7],[0,1,2,3,4,5,6,7,8],[0,1,2,3,4,5,6,7,8,9]] BC rfl (Hq ?_))))
   first | refine AE [3] [] Z Z (fun _=>AB (AO rfl DX Z Z Z)) ?_ | refine AI [3] Z Z (fun _=>AB (AO rfl DX Z Z Z)) ?_ | refine AE [3] [] Z Z (fun _=>AB (AQ rfl DX Z Z Z)) ?_ | refine AI [3] Z Z (fun _=>AB (AQ rfl DX Z Z Z)) ?_ | refine AE [3] [] Z Z (fun _=>AB (AR rfl DX Z Z Z)) ?_ | refine AI [3] Z Z (fun _=>AB (AR rfl DX Z Z Z)) ?_ | refine AE [3] [] Z Z (fun _=>AB (AP rfl DX Z Z Z)) ?_ | refine AI [3] Z Z (fun _=>AB (AP rfl DX Z Z Z)) ?_ | refine AE [3] [] Z Z (fun _=>AB (AN rfl DX Z Z Z)) ?_ | refine AI [3] Z Z (fun _=>AB (AN rfl DX Z Z Z)) ?_
   first | refine AE [49] [] Z Z (fun _=>AB (A0 Z Z Fm rfl)) ?_ | refine AI [49] Z Z (fun _=>AB (A0 Z Z Fm rfl)) ?_ | refine AE [49] [] Z Z (fun _=>AB (AY Z Z Z Fm rfl)) ?_ | refine AI [49] Z Z (fun _=>AB (AY Z Z Z Fm rfl)) ?_ | refine AE [49] [] Z Z (fun _=>AB (AZ Z Z (rfl) rfl Fm rfl)) ?_ | refine AI [49] Z Z (fun _=>AB (AZ Z Z (rfl) rfl Fm rfl)) ?_
   first | refine AE [1] [] Z Z (fun _=>AB (AO rfl PS Z Z Z)) ?_ | refine AI [1] Z Z (fun _=>AB (AO rfl PS Z Z Z)) ?_ | refine AE [1] [] Z Z (fun _=>AB (AQ rfl PS Z Z Z)) ?_ | refine AI [1] Z Z (fun _=>AB (AQ rfl PS Z Z Z)) ?_ | refine AE [1] [] Z Z (fun _=>AB (AR rfl PS Z Z Z)) ?_ | refine AI [1] Z Z (fun _=>AB (AR rfl PS Z Z Z)) ?_ | refine AE [1] [] Z Z (fun _=>AB (AP rfl PS Z Z Z)) ?_ | refine AI [1] Z Z (fun _=>AB (AP rfl PS Z Z Z)) ?_ | refine AE [1] [] Z Z (fun _=>AB (AN rfl PS Z Z Z)) ?_ | refine AI [1] Z Z (fun _=>AB (AN rfl PS Z Z Z)) ?_
   first | refine AE [51] [] Z Z (fun _=>AB (A0 Z Z Lu rfl)) ?_ | refine AI [51] Z Z (fun _=>AB (A0 Z Z Lu rfl)) ?_ | refine AE [51] [] Z Z (fun _=>AB (AY Z Z Z Lu rfl)) ?_ | refine AI [51] Z Z (fun _=>AB (AY Z Z Z Lu rfl)) ?_ | refine AE [51] [] Z Z (fun _=>AB (AZ Z Z (rfl) rfl Lu rfl)) ?_ | refine AI [51] Z Z (fun _=>AB (AZ Z Z (rfl) rfl Lu rfl)) ?_
   first | refine AE [5] [] Z Z (fun _=>AB (B7 Z Z)) ?_ | refine AI [5] Z Z (fun _=>AB (B7 Z Z)) ?_
   first | refine AE [52,53] [] Z Z (fun _=>AB (CY (acc2.length) Z Z (rfl) (A2 hk3) Tryz.underlying70 rfl Tu rfl)) ?_ | refine AI [52,53] Z Z (fun _=>AB (CY (acc2.length) Z Z (rfl) (A2 hk3) Tryz.underlying70 rfl Tu rfl)) ?_ | refine AE [52,53] [] Z Z (fun _=>AB (CZ (acc2.length) Z Z (rfl) (A2 hk3) rfl Tryz.underlying70 Tu rfl)) ?_ | refine AI [52,53] Z Z (fun _=>AB (CZ (acc2.length) Z Z (rfl) (A2 hk3) rfl Tryz.underlying70 Tu rfl)) ?_
   first | refine AE [54] [] Z Z (fun _=>AB (An Z Z OU rfl)) ?_ | refine AI [54] Z Z (fun _=>AB (An Z Z OU rfl)) ?_ | refine AE [54] [] Z Z (fun _=>AB (Ao Z Z OU Z Z Z)) ?_ | refine AI [54] Z Z (fun _=>AB (Ao Z Z OU Z Z Z)) ?_ | refine AE [54] [] Z Z (fun _=>AB (Ap Z Z (rfl) rfl OU rfl)) ?_ | refine AI [54] Z Z (fun _=>AB (Ap Z Z (rfl) rfl OU rfl)) ?_
   refine Fw [55] [6] [(56,_)] Z Z (fun _=>Fx (Fg 6 Qo Z Z Z Z Z Z Z Z)) (.inr ⟨56,_,rfl,rfl,rfl,rfl,rfl⟩) Z Z Z Z Z (GZ 8 Z Z Z (BD 9 Z Z ?_))
   first | refine U (Ib (acc2) ([i.pa[acc2.length]]) Z Z Z Z Z Z Z Z Qo (by simp only [List.length_singleton];omega) Z Z Z Z) ?_ | refine U (Ka (acc2) ([i.pa[acc2.length]]) Z Z Z Z Z Z (fun _=>rfl) Qo (by simp only [List.length_singleton];omega) Z Z Z Z) ?_
   refine AH ⟨rfl,?_⟩;refine BD 10 Z Z ?_
   first | refine J (AO rfl DX Z Z Z) ?_ | refine J (AQ rfl DX Z Z Z) ?_ | refine J (AR rfl DX Z Z Z) ?_ | refine J (AP rfl DX Z Z Z) ?_ | refine J (AN rfl DX Z Z Z) ?_
   refine AH ⟨rfl,?_⟩;refine BD 11 Z Z (U (Bj Z Z Z Z Z Z Z sz47) (AH ⟨rfl,?_⟩));refine GY (AJ (AC Z Z (J (Bi Z Z (Q8 acc2 i.pa[acc2.length] (by omega)) rfl) (AD Z Z (AH ?_)))));exact ⟨acc2++ [i.pa[acc2.length]],⟨MD hJ hk3,by rw [List.length_append];show acc2.length+1≤_;omega⟩,by rw [List.length_append];show i.pa.length - (acc2.length+1)<i.pa.length - acc2.length;omega,BP hF [902,1,2,4] rfl (rfl) ⟨rfl,rfl,rfl,rfl,trivial⟩⟩
  ·refine C6 (AF ?_);have hacc2:=P2 hJ (fun h=>h46 (by omega));refine WU (ys:=i.pa.map Gl) 4 0 4 902 Z Z Z (by simp) (by rw [hacc2];exact List.take_of_length_le (by simp)) Z Z Z Z Z Z (AJ ?_)
   first | refine J (An Z Z A7 rfl) ?_ | refine J (Ao Z Z A7 Z Z Z) ?_ | refine J (Ap Z Z (rfl) rfl A7 rfl) ?_
   refine U (Bj Z Z Z Z Z Z Z Br) (AH (Af ?_));exact ⟨_,[],[],Ae rfl,rfl,rfl,rfl,rfl⟩
def pd (r:A4) (p:Er):Int:=if p.acc=r.acc then p.d else 0
def yd1 (r:A4) (p:Lo):Int:=if p.f=r.f∧(r.k=2∨p.t=r.t) then p.n else 0
def yd2 (r:A4) (p:Lo):Int:=if p.t=r.f∧(r.k=2∨p.f=r.t) then p.n else 0
def yd (r:A4) (p:Lo):Int:= - yd1 r p+yd2 r p
def Pg (i:AT) (r:A4):Int:=if r.k=0 then (i.po.map (pd r)).sum else (i.pa.map (yd r)).sum
theorem Lh {l:List (A4×Int)} {r:A4} (h:∀x∈l,x.1≠r):Ai l r=0:=by
 induction l with
 | nil=>rfl
 | cons x l ih=>
  have h1:=h x (by simp);have h2:=ih fun y hy=>h y (by simp [hy]);simp only [Ai,List.map_cons,List.sum_cons] at h2⊢;rw [if_neg h1,h2];rfl
theorem SA {α:Type} (l:List α) (f:α ->List (A4×Int)) (r:A4):Ai (l.flatMap f) r=(l.map fun a=>Ai (f a) r).sum:=by
 induction l with
 | nil=>rfl
 | cons a l ih=>rw [List.flatMap_cons,Fv,ih];rfl
theorem O1 {i:AT} {r:A4} (h:BQ r=0):Pg i r=Ai (ctr i) r:=by
 unfold Pg ctr;rw [Fv];unfold BQ at h
 split at h
 ·rename_i hk
  split at h
  ·rename_i hv
   rw [if_pos hk]
   have h2:Ai (LO i.pa) r=0:=Lh fun x hx e=>by
    obtain ⟨p,_,hp⟩:=List.mem_flatMap.1 hx;simp only [OA,List.mem_cons,List.not_mem_nil,or_false] at hp;rw [←e] at hk;rcases hp with rfl | rfl | rfl | rfl<;>simp at hk
   rw [h2,Int.add_zero];unfold Ai I9;rw [List.map_map]
   congr 1
   apply List.map_congr_left
   intro p _;simp only [pd,Function.comp,GH]
   have e:(({k:=0,acc:=p.acc,f:=[],t:=[]}:A4)=r)↔p.acc=r.acc:=by
    rw [A4.eq_iff];simp [hk,hv.2.2.2.2.1,hv.2.2.2.2.2]
   by_cases hh:p.acc=r.acc
   ·rw [if_pos hh,if_pos (e.2 hh)]
   ·rw [if_neg hh,if_neg (fun h=>hh (e.1 h))]
  ·cases h
 ·rename_i hk
  rw [if_neg hk]
  have h2:Ai (I9 i.po) r=0:=Lh fun x hx e=>by
   obtain ⟨p,_,rfl⟩:=List.mem_map.1 hx;rw [←e] at hk;simp at hk
  rw [h2,Int.zero_add];unfold LO;rw [SA]
  congr 1
  apply List.map_congr_left
  intro p _;simp only [yd,yd1,yd2,OA,Ai,List.map_cons,List.map_nil,List.sum_cons,List.sum_nil,DU,E2,A4.eq_iff]
  split at h
  ·rename_i hk1
   split at h
   ·rename_i hv
    have hac:(acc0=r.acc)=True:=eq_true hv.2.2.2.symm;simp only [hk1,hac];have q1:¬(1:Int)=2:=by decide
    have q2:¬(2:Int)=1:=by decide
    simp only [q1,q2,false_and,false_or,true_and,if_false]
    by_cases b1:p.f=r.f∧p.t=r.t
    ·by_cases b2:p.t=r.f∧p.f=r.t
     ·rw [if_pos b1,if_pos b2,if_pos b1];omega
     ·rw [if_pos b1,if_neg b2,if_pos b1];omega
    ·by_cases b2:p.t=r.f∧p.f=r.t
     ·rw [if_neg b1,if_pos b2,if_neg b1];omega
     ·rw [if_neg b1,if_neg b2,if_neg b1];omega
   ·cases h
  ·split at h
   ·rename_i hk2
    split at h
    ·rename_i hv
     have hac:(acc0=r.acc)=True:=eq_true hv.2.2.symm;simp only [hk2,hac,hv.2.1]
     by_cases a1:p.f=r.f<;>by_cases a3:p.t=r.f<;>simp [a1,a3]<;>omega
    ·cases h
   ·cases h
theorem OJ {α:Type} {l:List α} {f:α ->Int} {B:Int} (h:∀x∈l,-B≤f x∧f x≤B) (n:Nat) (hn:l.length≤n) (hB:0≤B): -(n*B)≤(l.map f).sum∧(l.map f).sum≤n*B:=by
 induction l generalizing n with
 | nil=>have:=Int.mul_nonneg (Int.natCast_nonneg n) hB;simp only [List.map_nil,List.sum_nil];omega
 | cons x l ih=>
  obtain ⟨m,rfl⟩:∃m,n=m+1:=⟨n - 1,by simp at hn;omega⟩
  have h1:=ih (fun y hy=>h y (by simp [hy])) m (by simpa using hn);have h2:=h x (by simp);have e:((m+1:Nat):Int)*B=m*B+B:=by rw [Int.natCast_succ,Int.add_mul,Int.one_mul]
  rw [e,List.map_cons,List.sum_cons];omega
deriving instance DecidableEq for Er
deriving instance DecidableEq for Lo
deriving instance DecidableEq for AT
deriving instance DecidableEq for Roo
theorem Er.eq_iff {x y:Er}:x=y↔x.acc=y.acc∧x.d=y.d:=by cases x;cases y;simp
theorem Lo.eq_iff {x y:Lo}:x=y↔x.f=y.f∧x.t=y.t∧x.n=y.n:=by cases x;cases y;simp
theorem Roo.eq_iff {x y:Roo}:x=y↔x.r=y.r∧x.n=y.n:=by cases x;cases y;simp
theorem AT.eq_iff {x y:AT}:x=y↔x.id=y.id∧x.pr=y.pr∧x.sq=y.sq∧x.po=y.po∧x.pa=y.pa∧x.af=y.af:=by cases x;cases y;simp
def VZ (x:Roo):List Value:=[.int .i64 x.r.k,I4 x.r.acc.o,.int .i64 x.r.acc.k,I4 x.r.acc.a,I4 x.r.f,I4 x.r.t,.int .i64 x.n]
abbrev rooT:List TypeDesc:=[.int .i64,.string,.int .i64,.string,.string,.string,.int .i64]
theorem roo_eqC (a b:Roo):B6 (VZ a) (VZ b)=decide (a=b):=by
 simp only [VZ,B6,JO,JN,Roo.eq_iff,A4.eq_iff,PY.eq_iff,Bool.and_true,Bool.decide_and,Bool.and_assoc]
theorem OX (a:Roo):BU rooT (VZ a):=S1 rfl (S1 trivial (S1 rfl (S1 trivial (S1 trivial (S1 trivial (S1 rfl Ku))))))
theorem E7 {α:Type} {p:α ->Bool} {l:List α} {k:Nat} (hk:k<l.length):(l.take (k+1)).filter p=(l.take k).filter p++(if p l[k] then [l[k]] else []):=by
 rw [List.take_succ_eq_append_getElem hk,List.filter_append]
 congr 1
 rw [List.filter_cons,List.filter_nil]
abbrev BE (b:Bool):D:= .raw (.bool b)
def Ag {α:Type} (l:List α):List (α×Bool):=l.map fun a=>(a,true)
theorem WT {α:Type} [DecidableEq α] (l:List α) (a:α):Ad (Ag l) a false=decide (a∈l):=by
 induction l with
 | nil=>rfl
 | cons b l ih=>
  simp only [Ag,List.map_cons,Ad]
  by_cases h:a=b
  ·rw [if_pos h];simp [h]
  ·rw [if_neg h];simp only [Ag] at ih;rw [ih];simp [h]
theorem D3 {α:Type} [DecidableEq α] {l:List α} {a:α} (h:a∉l):BO (Ag l) a true=Ag (l++ [a]):=by
 induction l with
 | nil=>rfl
 | cons b l ih=>
  simp only [List.mem_cons,not_or] at h;simp only [Ag,List.map_cons,List.cons_append,BO];rw [if_neg h.1];have:=ih h.2;simp only [Ag] at this;rw [this]
def DC:Roo:=⟨⟨0,SP,[],[]⟩,0⟩
def Lt (l:List Roo) (k:Nat):Int:=if BQ (l.getD k DC).r≠0 then BQ (l.getD k DC).r else if ¬(-4*Mx≤(l.getD k DC).n∧(l.getD k DC).n≤4*Mx) then 12 else if (l.getD k DC).r∈(l.take k).map Roo.r then 7 else 0
def Ce (l:List Roo):Int:=Bk ((List.range l.length).map (Lt l))
theorem Bg {α:Type} {l:List α} {k:Nat} (d:α) (h:k<l.length):l.getD k d=l[k]:=by rw [List.getD_eq_getElem?_getD,List.getElem?_eq_getElem h];rfl
theorem CU {α β:Type} {l:List α} {f:α ->β} {k:Nat} (hk:k<l.length):(l.take (k+1)).map f=(l.take k).map f++ [f l[k]]:=by rw [List.take_succ_eq_append_getElem hk,List.map_append];rfl
theorem rooms_p (p:Prb) (hl:p.ro.length≤100000):AU Tryz.prog 137 [.d (CI p)] (AG (Ce p.ro)):=by
 refine BY Tryz.func137 Z Z Tryz.ntmps137 Z Z Z fun F hF=>(AF (AJ (U (CJ 1 Z Z Z Z Z Z Z) (AD Z Z ?_))));refine AH (AF (AJ (U (S3 2 Z Z Z Z) (AD Z Z (AH (AF (AF (AJ ?_))))))))
 first | refine J (AO rfl G5 Z Z Z) ?_ | refine J (AQ rfl G5 Z Z Z) ?_ | refine J (AR rfl G5 Z Z Z) ?_ | refine J (AP rfl G5 Z Z Z) ?_ | refine J (AN rfl G5 Z Z Z) ?_
 first | refine J (A0 Z Z Fn rfl) ?_ | refine J (AY Z Z Z Fn rfl) ?_ | refine J (AZ Z Z (rfl) rfl Fn rfl) ?_
 first | refine J (Cc rfl Tryz.underlying28 rfl) ?_ | refine J (C8 Z Z Tryz.underlying28 rfl) ?_ | refine J (Cd rfl Tryz.underlying28 rfl) ?_ | refine J (Cb rfl Tryz.underlying28 rfl) ?_ | refine J (CW rfl Tryz.underlying28 rfl) ?_ | refine J (C9 rfl Tryz.underlying28 rfl) ?_
 refine AC Z Z (AH (Au (De (α:=Nat) (fun k=>⟨35,[(3,(.map 2 0)),(9,(.d (.sl none (p.ro.map DT)))),(10,(.d (AG (p.ro.length:Int)))),(11,(.d (AG (k:Int))))],[(2,[B5 D5 BE (Ag ((p.ro.take k).map Roo.r))])]⟩) (fun k=>k≤p.ro.length∧Ce p.ro=Bk (((List.range p.ro.length).drop k).map (Lt p.ro))) (fun k=>p.ro.length - k) (0) (⟨Nat.zero_le _,rfl⟩) (BP hF [2] Z Z ⟨rfl,rfl,rfl,rfl,trivial⟩) ?_)));rintro k ⟨hk0,hk⟩;refine AF (AJ ?_)
 first | refine J (C7 Z Z Z) ?_ | refine J (Ca Z Z Z) ?_
 refine AH (AF ?_)
 first | refine BJ rfl (fun h12=>?_) (fun h12=>?_) | refine BB rfl (fun h12=>?_) (fun h12=>?_)
 ·have hk1:k<p.ro.length:=DZ h12;refine Am (AF (Au (AF (AJ ?_))));have hE:=E1 hk1 hk;have hgd:=Bg DC hk1
  first | refine J (CY (k) Z Z (rfl) (A2 hk1) Tryz.underlying28 rfl Jf rfl) ?_ | refine J (CZ (k) Z Z (rfl) (A2 hk1) rfl Tryz.underlying28 Jf rfl) ?_
  first | refine J (An Z Z Is rfl) ?_ | refine J (Ao Z Z Is Z Z Z) ?_ | refine J (Ap Z Z (rfl) rfl Is rfl) ?_
  refine U (Cm 3 Lp Z Z Z Z) (U (Bj Z Z Z Z Z Z Z Jf) (AH (AF (AF (AJ ?_)))))
  first | refine J (AO rfl C3 Z Z Z) ?_ | refine J (AQ rfl C3 Z Z Z) ?_ | refine J (AR rfl C3 Z Z Z) ?_ | refine J (AP rfl C3 Z Z Z) ?_ | refine J (AN rfl C3 Z Z Z) ?_
  first | refine J (An Z Z Ab rfl) ?_ | refine J (Ao Z Z Ab Z Z Z) ?_ | refine J (Ap Z Z (rfl) rfl Ab rfl) ?_
  refine J (BF (To p.ro[k].r) Z Z) (AD Z Z (AH (AF (AJ (AC Z Z ?_)))))
  first | refine J (E9 Z Z Z) ?_ | refine J (Ed Z Z Z) ?_ | refine J (EU Z Z Z) ?_ | refine J (Ea Tryz.underlying34 Z Z Z) ?_ | refine J (Ec Tryz.underlying34 Z Z Z) ?_ | refine J (st_neqN Tryz.underlying34 Z Z) ?_ | refine J (Eb Tryz.underlying34 Z Z Z) ?_ | refine J (st_neqFN Tryz.underlying34 Z Z) ?_
  refine AH ?_
  first | refine BJ rfl (fun h19=>?_) (fun h19=>?_) | refine BB rfl (fun h19=>?_) (fun h19=>?_)
  ·refine AF (AJ (AC Z Z (AD Z Z (AH (Af ?_)))));exact ⟨_,[],[],Ae rfl,rfl,rfl,Al (hE.2 _ (by unfold Lt;rw [hgd,if_pos h19]) h19),rfl⟩
  ·refine Am (AF (Au (AF (AJ ?_))))
   first | refine J (AO rfl IF Z Z Z) ?_ | refine J (AQ rfl IF Z Z Z) ?_ | refine J (AR rfl IF Z Z Z) ?_ | refine J (AP rfl IF Z Z Z) ?_ | refine J (AN rfl IF Z Z Z) ?_
   first | refine J (A0 Z Z Be rfl) ?_ | refine J (AY Z Z Z Be rfl) ?_ | refine J (AZ Z Z (rfl) rfl Be rfl) ?_
   refine J (BF (FC _ _ _) Z Z) ?_
   first | refine J (F2 Z Z) ?_ | refine J (FT Z Z) ?_
   refine AD Z Z (AH ?_)
   first | refine BJ rfl (fun h21=>?_) (fun h21=>?_) | refine BB rfl (fun h21=>?_) (fun h21=>?_)
   ·refine AF (AJ (AD Z Z (AH (Af ?_))));exact ⟨_,[],[],Ae rfl,rfl,rfl,Al (hE.2 12 (by unfold Lt;rw [hgd,if_neg h19,if_pos (by simp only [Mx];omega)]) (by decide)),rfl⟩
   ·refine AF (AJ (AC Z Z ?_))
    first | refine J (AO rfl C3 Z Z Z) ?_ | refine J (AQ rfl C3 Z Z Z) ?_ | refine J (AR rfl C3 Z Z Z) ?_ | refine J (AP rfl C3 Z Z Z) ?_ | refine J (AN rfl C3 Z Z Z) ?_
    first | refine J (An Z Z Ab rfl) ?_ | refine J (Ao Z Z Ab Z Z Z) ?_ | refine J (Ap Z Z (rfl) rfl Ab rfl) ?_
    refine J (IC (Ag ((p.ro.take k).map Roo.r)) (p.ro[k].r) (false) _ Z Z Z Xx Ch Tn Z Z) ?_;rw [WT];refine AD Z Z (AH ?_)
    first | refine BJ rfl (fun h26=>?_) (fun h26=>?_) | refine BB rfl (fun h26=>?_) (fun h26=>?_)
    ·refine AF (AJ (AD Z Z (AH (Af ?_))));exact ⟨_,[],[],Ae rfl,rfl,rfl,Al (hE.2 7 (by unfold Lt;rw [hgd,if_neg h19,if_neg (by simp only [Mx];omega),if_pos h26]) (by decide)),rfl⟩
    ·have hnot:p.ro[k].r∉(p.ro.take k).map Roo.r:=h26;refine Am (AJ (AC Z Z ?_))
     first | refine J (AO rfl C3 Z Z Z) ?_ | refine J (AQ rfl C3 Z Z Z) ?_ | refine J (AR rfl C3 Z Z Z) ?_ | refine J (AP rfl C3 Z Z Z) ?_ | refine J (AN rfl C3 Z Z Z) ?_
     first | refine J (An Z Z Ab rfl) ?_ | refine J (Ao Z Z Ab Z Z Z) ?_ | refine J (Ap Z Z (rfl) rfl Ab rfl) ?_
     first | refine U (DE (Ag ((p.ro.take k).map Roo.r)) (p.ro[k].r) (true) Z Z Z Xx Ch Z Z) ?_ | refine U (WZ (Ag ((p.ro.take k).map Roo.r)) (p.ro[k].r) (true) Z Z Z Xx Ch Z Z) ?_
     refine AH (AJ (J (Bi Z Z (A6 (k+1) (by omega)) rfl) (AC Z Z (AH ?_))));exact ⟨k+1,⟨by show k+1≤_;omega,hE.1 (by unfold Lt;rw [hgd,if_neg h19,if_neg (by simp only [Mx];omega),if_neg hnot])⟩,by show p.ro.length - (k+1)<p.ro.length - k;omega,BP hF [2] rfl (by rw [CU hk1,←D3 hnot];rfl) ⟨rfl,rfl,rfl,rfl,trivial⟩⟩
 ·refine C6 (AF (AJ (AD Z Z (AH (Af ?_)))));exact ⟨_,[],[],Ae rfl,rfl,rfl,Al (by rw [hk,List.drop_of_length_le (by have h:=h12;simp only [List.length_range];omega)];rfl),rfl⟩
theorem HF {a b:Bool} (h:a=b):AV.d (.raw (.bool a))= .d (.raw (.bool b)):=by rw [h]
theorem MN {α:Type} {p:α ->Bool}:∀{l:List α} {k:Nat} (hk:k<l.length),(∀x∈l.take k,p x=false) ->p l[k]=true ->l.findIdx? p=some k
 | a::l,0,_,_,h=>by simp at h;simp [List.findIdx?_cons,h]
 | a::l,k+1,hk,h0,h=>by
  have h1:p a=false:=h0 a (by simp);have:=MN (l:=l) (k:=k) (by simpa using hk) (fun x hx=>h0 x (by simp [hx])) (by simpa using h)
  simp [List.findIdx?_cons,h1,this]
theorem QG {α:Type} {p:α ->Bool} {l:List α} (h:∀x∈l,p x=false):l.findIdx? p=none:=by
 rw [List.findIdx?_eq_none_iff];exact h
def WY (p:Int ->Bool) (l:List Int):Int:=match l.findIdx? p with
 | some k=>k
 | none=> -1
theorem ixF_nn {p:Int ->Bool} {l:List Int}:0≤WY p l↔l.any p=true:=by
 unfold WY
 cases h:l.findIdx? p with
 | none=>
  rw [List.findIdx?_eq_none_iff] at h;simp only [List.any_eq_true]
  constructor
  ·intro h';omega
  ·rintro ⟨x,hx,hp⟩;rw [h x hx] at hp;cases hp
 | some k=>
  have:=List.findIdx?_isSome (xs:=l) (p:=p);rw [h] at this;simp only [Option.isSome_some] at this
  simp [←this]
abbrev HM (S:List Int):Hp:=[(910,[.blk 173 [.map 911 0]]),(911,[B5 AG BE (Ag S)])]
def Ha (S:List Int) (x:Int):Bool:=!decide (x∈S)
theorem chk1_c (S:List Int) (x:Int):A8 Tryz.prog 138 [.d (AG x),.ptr 910 0 0] (HM S) fun r H'=>r= .d (BE (Ha S x))∧H'=HM S:=by
 refine BY Tryz.func138 Z Z Tryz.ntmps138 Z Z Z fun F hF=>(AF (AJ (AD Z Z (AH (AF (AJ ?_))))))
 first | refine J (A0 Z Z KC rfl) ?_ | refine J (AY Z Z Z KC rfl) ?_ | refine J (AZ Z Z (rfl) rfl KC rfl) ?_
 refine AC Z Z (J (IC (Ag S) (x) (false) _ Z Z Z DP GO Tn Z Z) ?_);rw [WT]
 first | refine J (F2 Z Z) ?_ | refine J (FT Z Z) ?_
 refine AD Z Z (AH (Af ?_));exact ⟨_,[910,911],_,Ae rfl,rfl,rfl,by first | exact HF (by unfold Ha;simp) | rfl,rfl⟩
theorem YZ (S l:List Int) (hl:l.length≤100000000):A8 Tryz.prog 95 [.d (.sl none (l.map AG)),.fn 138 [.ptr 910 0 0]] (HM S) fun r H'=>r= .d (AG (WY (Ha S) l))∧H'=HM S:=by
 refine BY Tryz.func95 Z Z Tryz.ntmps95 Z Z Z fun F hF=>(AF (AJ (AD Z Z (AH (AF (AF (AJ (AC Z Z ?_))))))))
 first | refine J (Cc rfl Tryz.underlying33 rfl) ?_ | refine J (C8 Z Z Tryz.underlying33 rfl) ?_ | refine J (Cd rfl Tryz.underlying33 rfl) ?_ | refine J (Cb rfl Tryz.underlying33 rfl) ?_ | refine J (CW rfl Tryz.underlying33 rfl) ?_ | refine J (C9 rfl Tryz.underlying33 rfl) ?_
 refine AC Z Z (AH (Au (De (α:=Nat) (fun k=>⟨19,[(0,.d (.sl none (l.map AG))),(1,.fn 138 [.ptr 910 0 0]),(7,(.d (AG (l.length:Int)))),(8,(.d (AG (k:Int))))],HM S⟩) (fun k=>k≤l.length∧∀x∈l.take k,Ha S x=false) (fun k=>l.length - k) (0) (⟨Nat.zero_le _,by simp⟩) (BP hF [910,911] Z Z ⟨rfl,rfl,rfl,rfl,trivial⟩) ?_)));rintro k ⟨hk0,hk⟩;refine AF (AJ ?_)
 first | refine J (C7 Z Z Z) ?_ | refine J (Ca Z Z Z) ?_
 refine AH (AF ?_)
 first | refine BJ rfl (fun h9=>?_) (fun h9=>?_) | refine BB rfl (fun h9=>?_) (fun h9=>?_)
 ·have hk1:k<l.length:=DZ h9;refine Am (AF (Au (AF ?_)));refine AJ (AC Z Z (AD Z Z (AH (AF (AJ (AC Z Z (AC Z Z (AC Z Z ?_))))))))
  first | refine J (CY (k) Z Z (rfl) (A2 hk1) Tryz.underlying33 rfl Dh rfl) ?_ | refine J (CZ (k) Z Z (rfl) (A2 hk1) rfl Tryz.underlying33 Dh rfl) ?_
  first | refine J (A0 Z Z A9 rfl) ?_ | refine J (AY Z Z Z A9 rfl) ?_ | refine J (AZ Z Z (rfl) rfl A9 rfl) ?_
  refine U (Kd (chk1_c S l[k]) rfl [910,911] ⟨rfl,rfl,trivial⟩ Z Z Z Z Z Z Z Z Z) (AH ?_)
  first | refine BJ rfl (fun h16=>?_) (fun h16=>?_) | refine BB rfl (fun h16=>?_) (fun h16=>?_)
  ·refine AF (AJ (AC Z Z (AD Z Z (AH (Af ?_)))));exact ⟨_,[910,911],_,Ae rfl,rfl,rfl,Al (by unfold WY;rw [MN hk1 hk (by simpa using h16)]),rfl⟩
  ·refine Am (AJ (J (Bi Z Z (A6 (k+1) (by omega)) rfl) (AC Z Z (AH ?_))));exact ⟨k+1,⟨by show k+1≤_;omega,by rw [List.take_succ_eq_append_getElem hk1];intro x hx;rcases List.mem_append.1 hx with hx | hx;exact hk x hx;rw [List.mem_singleton.1 hx];simpa using h16⟩,by show l.length - (k+1)<l.length - k;omega,BP hF [910,911] rfl (rfl) ⟨rfl,rfl,rfl,rfl,trivial⟩⟩
 ·refine C6 (AF (AJ (AD Z Z (AH (Af ?_)))));exact ⟨_,[910,911],_,Ae rfl,rfl,rfl,Al (by unfold WY;rw [QG (fun x hx=>hk x (by rw [List.take_of_length_le (by have h:=h9;omega)];exact hx))]),rfl⟩
theorem SD (S l:List Int) (hl:l.length≤100000000):A8 Tryz.prog 84 [.d (.sl none (l.map AG)),.fn 138 [.ptr 910 0 0]] (HM S) fun r H'=>r= .d (BE (l.any (Ha S)))∧H'=HM S:=by
 refine BY Tryz.func84 Z Z Tryz.ntmps84 Z Z Z fun F hF=>(AF (AJ (AD Z Z (AH ?_))));refine AF (AJ (AC Z Z (AC Z Z (U (HQ (YZ S l hl) rfl [910,911] ⟨rfl,rfl,trivial⟩ Z Z Z Z Z Z Z Z Z) (J (Ip Z Z Z) (AD Z Z (AH (Af ?_))))))));exact ⟨_,[910,911],_,Ae rfl,rfl,rfl,HF (by rw [Bool.eq_iff_iff,decide_eq_true_eq];exact ixF_nn),rfl⟩
def itm0:AT:=⟨0,0,0,[],[],[]⟩
def NR (l:List AT) (k:Nat):Int:=if BI (l.getD k itm0)≠0 then BI (l.getD k itm0) else if (l.getD k itm0).id∈(l.take k).map AT.id∨(l.getD k itm0).sq∈(l.take k).map AT.sq then 7 else 0
def D7 (l:List AT):Int:=Bk ((List.range l.length).map (NR l))
def QI (S:List Int) (i:AT):Int:=if i.af.any (Ha S)=true then 9 else 0
def HB (l:List AT):Int:=Bk (l.map (QI (l.map AT.id)))
def Ak (p:Prb):Int:=if 4096<p.it.length∨16384<p.ro.length then 8 else Bk [Ce p.ro,D7 p.it,HB p.it]
theorem prbE_r {p:Prb} (h:¬(4096<p.it.length∨16384<p.ro.length)) (h2:Ce p.ro≠0):Ce p.ro=Ak p:=by unfold Ak;rw [if_neg h];simp only [Bk];rw [if_neg h2]
theorem Sy {p:Prb} (h:¬(4096<p.it.length∨16384<p.ro.length)) (h1:Ce p.ro=0) {e:Int} (h2:e=D7 p.it) (h3:e≠0):e=Ak p:=by unfold Ak;rw [if_neg h];simp only [Bk];rw [if_pos h1,if_neg (by rw [←h2];exact h3),h2]
theorem XW {p:Prb} (h:¬(4096<p.it.length∨16384<p.ro.length)) (h1:Ce p.ro=0) (h2:D7 p.it=0) {e:Int} (h3:e=HB p.it):e=Ak p:=by unfold Ak;rw [if_neg h];simp only [Bk];rw [if_pos h1,if_pos h2,h3];split<;>simp_all
def Cz (p:Prb):Prop:=p.ro.length≤100000∧p.it.length≤100000∧∀i∈p.it,i.po.length≤100000∧i.pa.length≤100000∧i.af.length≤100000
theorem FJ (p:Prb) (hb:Cz p):AU Tryz.prog 76 [.d (CI p)] (AG (Ak p)):=by
 obtain ⟨g1,g2,g3⟩:=hb;refine BY Tryz.func76 Z Z Tryz.ntmps76 Z Z Z fun F hF=>(AF (AJ (U (CJ 1 Z Z Z Z Z Z Z) (AD Z Z (AH (AF (AF (AJ ?_))))))))
 first | refine J (AO rfl Bw Z Z Z) ?_ | refine J (AQ rfl Bw Z Z Z) ?_ | refine J (AR rfl Bw Z Z Z) ?_ | refine J (AP rfl Bw Z Z Z) ?_ | refine J (AN rfl Bw Z Z Z) ?_
 first | refine J (A0 Z Z Bf rfl) ?_ | refine J (AY Z Z Z Bf rfl) ?_ | refine J (AZ Z Z (rfl) rfl Bf rfl) ?_
 first | refine J (Cc rfl Tryz.underlying29 rfl) ?_ | refine J (C8 Z Z Tryz.underlying29 rfl) ?_ | refine J (Cd rfl Tryz.underlying29 rfl) ?_ | refine J (Cb rfl Tryz.underlying29 rfl) ?_ | refine J (CW rfl Tryz.underlying29 rfl) ?_ | refine J (C9 rfl Tryz.underlying29 rfl) ?_
 first | refine J (Dj Z Z Z) ?_ | refine J (Co Z Z Z) ?_
 refine AC Z Z ?_
 first | refine K9 15 rfl (fun h15=>?_) (fun h15=>?_) | refine J4 15 rfl (fun h15=>?_) (fun h15=>?_)
 ·refine Aj Z Z Z Z (Aj Z Z Z Z (Aj Z Z Z Z ?_));refine Aj Z Z Z Z (J (EB Z Z Z Z) (AH (Dg Z Z (AF (AJ (AD Z Z (AH (Af ?_))))))));exact ⟨_,[],[],Ae rfl,rfl,rfl,Al (by unfold Ak;rw [if_pos (by omega)]),rfl⟩
 ·refine Ah Z Z Z ?_
  first | refine J (AO rfl G5 Z Z Z) ?_ | refine J (AQ rfl G5 Z Z Z) ?_ | refine J (AR rfl G5 Z Z Z) ?_ | refine J (AP rfl G5 Z Z Z) ?_ | refine J (AN rfl G5 Z Z Z) ?_
  refine Ah Z Z Z ?_
  first | refine J (A0 Z Z Fn rfl) ?_ | refine J (AY Z Z Z Fn rfl) ?_ | refine J (AZ Z Z (rfl) rfl Fn rfl) ?_
  refine Ah Z Z Z ?_
  first | refine J (Cc rfl Tryz.underlying28 rfl) ?_ | refine J (C8 Z Z Tryz.underlying28 rfl) ?_ | refine J (Cd rfl Tryz.underlying28 rfl) ?_ | refine J (Cb rfl Tryz.underlying28 rfl) ?_ | refine J (CW rfl Tryz.underlying28 rfl) ?_ | refine J (C9 rfl Tryz.underlying28 rfl) ?_
  refine Ah Z Z Z ?_
  first | refine J (Dj Z Z Z) ?_ | refine J (Co Z Z Z) ?_
  refine J (Ei Z Z Z Z) (AH ?_)
  first | refine BJ rfl (fun h20=>?_) (fun h20=>?_) | refine BB rfl (fun h20=>?_) (fun h20=>?_)
  ·refine AF (AJ (AD Z Z (AH (Af ?_))));exact ⟨_,[],[],Ae rfl,rfl,rfl,Al (by unfold Ak;rw [if_pos (by omega)]),rfl⟩
  ·refine Am (AF (AF ?_));have hsz:¬(4096<p.it.length∨16384<p.ro.length):=by omega
   refine AJ ?_
   first | refine J (An Z Z AW rfl) ?_ | refine J (Ao Z Z AW Z Z Z) ?_ | refine J (Ap Z Z (rfl) rfl AW rfl) ?_
   refine J (BF (rooms_p p g1) Z Z) (AD Z Z (AH (AF (AJ (AC Z Z ?_)))))
   first | refine J (E9 Z Z Z) ?_ | refine J (Ed Z Z Z) ?_ | refine J (EU Z Z Z) ?_ | refine J (Ea Tryz.underlying34 Z Z Z) ?_ | refine J (Ec Tryz.underlying34 Z Z Z) ?_ | refine J (st_neqN Tryz.underlying34 Z Z) ?_ | refine J (Eb Tryz.underlying34 Z Z Z) ?_ | refine J (st_neqFN Tryz.underlying34 Z Z) ?_
   refine AH ?_
   first | refine BJ rfl (fun h24=>?_) (fun h24=>?_) | refine BB rfl (fun h24=>?_) (fun h24=>?_)
   ·refine AF (AJ (AC Z Z (AD Z Z (AH (Af ?_)))));exact ⟨_,[],[],Ae rfl,rfl,rfl,Al (prbE_r hsz h24),rfl⟩
   ·refine Am (AF ?_);have hr0:Ce p.ro=0:=by simpa using h24
    refine AJ ?_;refine U (S3 2 Z Z Z Z) (U (S3 3 Z Z Z Z) (U (Cm 4 zl173 Z Z Z Z) (U (Bj Z Z Z Z Z Z Z sz173) (AD Z Z (AH (AF (AF (AJ ?_))))))))
    first | refine J (AO rfl Bw Z Z Z) ?_ | refine J (AQ rfl Bw Z Z Z) ?_ | refine J (AR rfl Bw Z Z Z) ?_ | refine J (AP rfl Bw Z Z Z) ?_ | refine J (AN rfl Bw Z Z Z) ?_
    first | refine J (A0 Z Z Bf rfl) ?_ | refine J (AY Z Z Z Bf rfl) ?_ | refine J (AZ Z Z (rfl) rfl Bf rfl) ?_
    first | refine J (Cc rfl Tryz.underlying29 rfl) ?_ | refine J (C8 Z Z Tryz.underlying29 rfl) ?_ | refine J (Cd rfl Tryz.underlying29 rfl) ?_ | refine J (Cb rfl Tryz.underlying29 rfl) ?_ | refine J (CW rfl Tryz.underlying29 rfl) ?_ | refine J (C9 rfl Tryz.underlying29 rfl) ?_
    refine AC Z Z (AH (Au (De (α:=Nat) (fun k=>⟨69,[(1,(.ptr 1 0 0)),(4,(.ptr 4 0 0)),(5,(.map 3 0)),(29,(.d (.sl none (p.it.map Aw)))),(30,(.d (AG (p.it.length:Int)))),(31,(.d (AG (k:Int))))],[(1,[.blk 31 [.d (.sl none (p.ro.map DT)),.d (.sl none (p.it.map Aw))]]),(4,[.blk 173 [.map 2 0]]),(2,[B5 AG BE (Ag ((p.it.take k).map AT.id))]),(3,[B5 AG BE (Ag ((p.it.take k).map AT.sq))])]⟩) (fun k=>k≤p.it.length∧D7 p.it=Bk (((List.range p.it.length).drop k).map (NR p.it))) (fun k=>p.it.length - k) (0) (⟨Nat.zero_le _,rfl⟩) (BP hF [1,4,2,3] Z Z ⟨rfl,rfl,rfl,rfl,rfl,rfl,trivial⟩) ?_)));rintro k ⟨hk0,hk⟩;refine AF (AJ ?_)
    first | refine J (C7 Z Z Z) ?_ | refine J (Ca Z Z Z) ?_
    refine AH (AF ?_)
    first | refine BJ rfl (fun h32=>?_) (fun h32=>?_) | refine BB rfl (fun h32=>?_) (fun h32=>?_)
    ·have hk1:k<p.it.length:=DZ h32;refine Am (AF (Au (AF (AJ ?_))));have hE:=E1 hk1 hk;have hgd:=Bg itm0 hk1;have hgi:=g3 _ (List.getElem_mem hk1)
     first | refine J (CY (k) Z Z (rfl) (A2 hk1) Tryz.underlying29 rfl Br rfl) ?_ | refine J (CZ (k) Z Z (rfl) (A2 hk1) rfl Tryz.underlying29 Br rfl) ?_
     first | refine J (An Z Z A7 rfl) ?_ | refine J (Ao Z Z A7 Z Z Z) ?_ | refine J (Ap Z Z (rfl) rfl A7 rfl) ?_
     refine U (Cm 5 Da Z Z Z Z) (U (Bj Z Z Z Z Z Z Z Br) (AH (AF (AF (AJ ?_)))))
     first | refine J (An Z Z A7 rfl) ?_ | refine J (Ao Z Z A7 Z Z Z) ?_ | refine J (Ap Z Z (rfl) rfl A7 rfl) ?_
     refine J (BF (K3 p.it[k] (by omega) (by omega) (by omega)) Z Z) (AD Z Z (AH (AF (AJ (AC Z Z ?_)))))
     first | refine J (E9 Z Z Z) ?_ | refine J (Ed Z Z Z) ?_ | refine J (EU Z Z Z) ?_ | refine J (Ea Tryz.underlying34 Z Z Z) ?_ | refine J (Ec Tryz.underlying34 Z Z Z) ?_ | refine J (st_neqN Tryz.underlying34 Z Z) ?_ | refine J (Eb Tryz.underlying34 Z Z Z) ?_ | refine J (st_neqFN Tryz.underlying34 Z Z) ?_
     refine AH ?_
     first | refine BJ rfl (fun h38=>?_) (fun h38=>?_) | refine BB rfl (fun h38=>?_) (fun h38=>?_)
     ·refine AF (AJ (AC Z Z (AD Z Z (AH (Af ?_)))));exact ⟨_,[],[],Ae rfl,rfl,rfl,Al (Sy hsz hr0 (hE.2 _ (by unfold NR;rw [hgd,if_pos h38]) h38) h38),rfl⟩
     ·refine Am (AF (AF (AJ ?_)))
      first | refine J (A0 Z Z KC rfl) ?_ | refine J (AY Z Z Z KC rfl) ?_ | refine J (AZ Z Z (rfl) rfl KC rfl) ?_
      first | refine J (AO rfl B4 Z Z Z) ?_ | refine J (AQ rfl B4 Z Z Z) ?_ | refine J (AR rfl B4 Z Z Z) ?_ | refine J (AP rfl B4 Z Z Z) ?_ | refine J (AN rfl B4 Z Z Z) ?_
      first | refine J (A0 Z Z A9 rfl) ?_ | refine J (AY Z Z Z A9 rfl) ?_ | refine J (AZ Z Z (rfl) rfl A9 rfl) ?_
      refine J (IC (Ag ((p.it.take k).map AT.id)) (p.it[k].id) (false) _ Z Z Z DP GO Tn Z Z) ?_;rw [WT];refine AC Z Z ?_
      first | refine K9 44 rfl (fun h44=>?_) (fun h44=>?_) | refine J4 44 rfl (fun h44=>?_) (fun h44=>?_)
      ·refine Aj Z Z Z Z (Aj Z Z Z Z (Aj Z Z Z Z ?_));refine Aj Z Z Z Z (J (EB Z Z Z Z) (AH (Dg Z Z (AF (AJ (AD Z Z (AH (Af ?_))))))));exact ⟨_,[],[],Ae rfl,rfl,rfl,Al (Sy hsz hr0 (hE.2 7 (by unfold NR;rw [hgd,if_neg h38,if_pos (by simp_all)]) (by decide)) (by decide)),rfl⟩
      ·refine Ah Z Z Z (AC Z Z (Ah Z Z Z ?_))
       first | refine J (AO rfl G6 Z Z Z) ?_ | refine J (AQ rfl G6 Z Z Z) ?_ | refine J (AR rfl G6 Z Z Z) ?_ | refine J (AP rfl G6 Z Z Z) ?_ | refine J (AN rfl G6 Z Z Z) ?_
       refine Ah Z Z Z ?_
       first | refine J (A0 Z Z A9 rfl) ?_ | refine J (AY Z Z Z A9 rfl) ?_ | refine J (AZ Z Z (rfl) rfl A9 rfl) ?_
       refine Ah Z Z Z (J (IC (Ag ((p.it.take k).map AT.sq)) (p.it[k].sq) (false) _ Z Z Z DP GO Tn Z Z) ?_);rw [WT];refine J (Ei Z Z Z Z) (AH ?_)
       first | refine BJ rfl (fun h49=>?_) (fun h49=>?_) | refine BB rfl (fun h49=>?_) (fun h49=>?_)
       ·refine AF (AJ (AD Z Z (AH (Af ?_))));exact ⟨_,[],[],Ae rfl,rfl,rfl,Al (Sy hsz hr0 (hE.2 7 (by unfold NR;rw [hgd,if_neg h38,if_pos (by simp_all)]) (by decide)) (by decide)),rfl⟩
       ·refine Am ?_;have n1:p.it[k].id∉(p.it.take k).map AT.id:=by simp_all
        have n2:p.it[k].sq∉(p.it.take k).map AT.sq:=by simp_all
        refine G8 [[],[],[1],[],[],[4],[0,1,2],[0,1,2,3,4,5,6]] BC rfl (Hq ?_)
        first | refine AE [4] [4,2] Z Z (fun _=>AB (A0 Z Z KC rfl)) ?_ | refine AE [4] [4,2] Z Z (fun _=>AB (AY Z Z Z KC rfl)) ?_ | refine AE [4] [4,2] Z Z (fun _=>AB (AZ Z Z (rfl) rfl KC rfl)) ?_
        first | refine AE [7] [] Z Z (fun _=>AB (AO rfl B4 Z Z Z)) ?_ | refine AI [7] Z Z (fun _=>AB (AO rfl B4 Z Z Z)) ?_ | refine AE [7] [] Z Z (fun _=>AB (AQ rfl B4 Z Z Z)) ?_ | refine AI [7] Z Z (fun _=>AB (AQ rfl B4 Z Z Z)) ?_ | refine AE [7] [] Z Z (fun _=>AB (AR rfl B4 Z Z Z)) ?_ | refine AI [7] Z Z (fun _=>AB (AR rfl B4 Z Z Z)) ?_ | refine AE [7] [] Z Z (fun _=>AB (AP rfl B4 Z Z Z)) ?_ | refine AI [7] Z Z (fun _=>AB (AP rfl B4 Z Z Z)) ?_ | refine AE [7] [] Z Z (fun _=>AB (AN rfl B4 Z Z Z)) ?_ | refine AI [7] Z Z (fun _=>AB (AN rfl B4 Z Z Z)) ?_
        first | refine AE [51] [5] Z Z (fun _=>AB (A0 Z Z A9 rfl)) ?_ | refine AE [51] [5] Z Z (fun _=>AB (AY Z Z Z A9 rfl)) ?_ | refine AE [51] [5] Z Z (fun _=>AB (AZ Z Z (rfl) rfl A9 rfl)) ?_
        first | refine AE [5] [] Z Z (fun _=>AB (B7 Z Z)) ?_ | refine AI [5] Z Z (fun _=>AB (B7 Z Z)) ?_
        first | refine AE [7] [] Z Z (fun _=>AB (AO rfl G6 Z Z Z)) ?_ | refine AI [7] Z Z (fun _=>AB (AO rfl G6 Z Z Z)) ?_ | refine AE [7] [] Z Z (fun _=>AB (AQ rfl G6 Z Z Z)) ?_ | refine AI [7] Z Z (fun _=>AB (AQ rfl G6 Z Z Z)) ?_ | refine AE [7] [] Z Z (fun _=>AB (AR rfl G6 Z Z Z)) ?_ | refine AI [7] Z Z (fun _=>AB (AR rfl G6 Z Z Z)) ?_ | refine AE [7] [] Z Z (fun _=>AB (AP rfl G6 Z Z Z)) ?_ | refine AI [7] Z Z (fun _=>AB (AP rfl G6 Z Z Z)) ?_ | refine AE [7] [] Z Z (fun _=>AB (AN rfl G6 Z Z Z)) ?_ | refine AI [7] Z Z (fun _=>AB (AN rfl G6 Z Z Z)) ?_
        first | refine AE [54] [5] Z Z (fun _=>AB (A0 Z Z A9 rfl)) ?_ | refine AE [54] [5] Z Z (fun _=>AB (AY Z Z Z A9 rfl)) ?_ | refine AE [54] [5] Z Z (fun _=>AB (AZ Z Z (rfl) rfl A9 rfl)) ?_
        first | refine Fw [50,52] [2] [] Z Z (fun _=>Fx (DE (Ag ((p.it.take k).map AT.id)) (p.it[k].id) (true) Z Z Z DP GO Z Z)) (.inl ⟨rfl,rfl⟩) Z Z Z Z Z ?_ | refine Fw [50,52] [2] [] Z Z (fun _=>Fx (WZ (Ag ((p.it.take k).map AT.id)) (p.it[k].id) (true) Z Z Z DP GO Z Z)) (.inl ⟨rfl,rfl⟩) Z Z Z Z Z ?_
        refine GZ 7 Z Z Z (BD 8 Z Z ?_)
        first | refine U (DE (Ag ((p.it.take k).map AT.sq)) (p.it[k].sq) (true) Z Z Z DP GO Z Z) ?_ | refine U (WZ (Ag ((p.it.take k).map AT.sq)) (p.it[k].sq) (true) Z Z Z DP GO Z Z) ?_
        refine AH ⟨rfl,?_⟩;refine GY (AJ (J (Bi Z Z (A6 (k+1) (by omega)) rfl) (AC Z Z (AH ?_))));exact ⟨k+1,⟨by show k+1≤_;omega,hE.1 (by unfold NR;rw [hgd,if_neg h38,if_neg (by rintro (h | h);exact n1 h;exact n2 h)])⟩,by show p.it.length - (k+1)<p.it.length - k;omega,BP hF [1,4,2,3] rfl (by rw [CU hk1,CU hk1,←D3 n1,←D3 n2];rfl) ⟨rfl,rfl,rfl,rfl,rfl,rfl,trivial⟩⟩
    ·refine C6 (AF (AF ?_));have hi0:D7 p.it=0:=by rw [hk,List.drop_of_length_le (by have h:=h32;simp only [List.length_range];omega)];rfl
     have hfull:p.it.take k=p.it:=List.take_of_length_le (by have h:=h32;omega);rw [hfull];refine AJ ?_
     first | refine J (AO rfl Bw Z Z Z) ?_ | refine J (AQ rfl Bw Z Z Z) ?_ | refine J (AR rfl Bw Z Z Z) ?_ | refine J (AP rfl Bw Z Z Z) ?_ | refine J (AN rfl Bw Z Z Z) ?_
     first | refine J (A0 Z Z Bf rfl) ?_ | refine J (AY Z Z Z Bf rfl) ?_ | refine J (AZ Z Z (rfl) rfl Bf rfl) ?_
     first | refine J (Cc rfl Tryz.underlying29 rfl) ?_ | refine J (C8 Z Z Tryz.underlying29 rfl) ?_ | refine J (Cd rfl Tryz.underlying29 rfl) ?_ | refine J (Cb rfl Tryz.underlying29 rfl) ?_ | refine J (CW rfl Tryz.underlying29 rfl) ?_ | refine J (C9 rfl Tryz.underlying29 rfl) ?_
     refine AC Z Z (AH (Au (De (α:=Nat) (fun k=>⟨69,[(4,(.ptr 4 0 0)),(58,(.d (.sl none (p.it.map Aw)))),(59,(.d (AG (p.it.length:Int)))),(60,(.d (AG (k:Int))))],[(4,[.blk 173 [.map 2 0]]),(2,[B5 AG BE (Ag (p.it.map AT.id))])]⟩) (fun k=>k≤p.it.length∧HB p.it=Bk ((p.it.drop k).map (QI (p.it.map AT.id)))) (fun k=>p.it.length - k) (0) (⟨Nat.zero_le _,rfl⟩) (BP hF [4,2] Z Z ⟨rfl,rfl,rfl,rfl,trivial⟩) ?_)));rintro k ⟨hk0,hk⟩;refine AF (AJ ?_)
     first | refine J (C7 Z Z Z) ?_ | refine J (Ca Z Z Z) ?_
     refine AH (AF ?_)
     first | refine BJ rfl (fun h61=>?_) (fun h61=>?_) | refine BB rfl (fun h61=>?_) (fun h61=>?_)
     ·have hk1:k<p.it.length:=DZ h61;refine Am (AF (Au (AF (AJ ?_))));have hE:=Dt hk1 hk;have hgi:=g3 _ (List.getElem_mem hk1)
      first | refine J (CY (k) Z Z (rfl) (A2 hk1) Tryz.underlying29 rfl Br rfl) ?_ | refine J (CZ (k) Z Z (rfl) (A2 hk1) rfl Tryz.underlying29 Br rfl) ?_
      first | refine J (An Z Z A7 rfl) ?_ | refine J (Ao Z Z A7 Z Z Z) ?_ | refine J (Ap Z Z (rfl) rfl A7 rfl) ?_
      refine U (Cm 6 Da Z Z Z Z) (U (Bj Z Z Z Z Z Z Z Br) (AH (AF (AJ ?_))))
      first | refine J (AO rfl Ct Z Z Z) ?_ | refine J (AQ rfl Ct Z Z Z) ?_ | refine J (AR rfl Ct Z Z Z) ?_ | refine J (AP rfl Ct Z Z Z) ?_ | refine J (AN rfl Ct Z Z Z) ?_
      first | refine J (A0 Z Z Aq rfl) ?_ | refine J (AY Z Z Z Aq rfl) ?_ | refine J (AZ Z Z (rfl) rfl Aq rfl) ?_
      refine J (Zdl Z Z) (U (HQ ((SD (p.it.map AT.id) p.it[k].af (by omega)).by [(910,4),(911,2)] rfl) rfl [4,2] ⟨rfl,rfl,trivial⟩ Z Z Z Z Z Z Z Z Z) (AH ?_))
      first | refine BJ rfl (fun h67=>?_) (fun h67=>?_) | refine BB rfl (fun h67=>?_) (fun h67=>?_)
      ·refine AF (AJ (AD Z Z (AH (Af ?_))));exact ⟨_,[],[],Ae rfl,rfl,rfl,Al (XW hsz hr0 hi0 (hE.2 9 (by unfold QI;rw [if_pos (by simpa using h67)]) (by decide))),rfl⟩
      ·refine Am (AJ (J (Bi Z Z (A6 (k+1) (by omega)) rfl) (AC Z Z (AH ?_))));exact ⟨k+1,⟨by show k+1≤_;omega,hE.1 (by unfold QI;rw [if_neg (by simpa using h67)])⟩,by show p.it.length - (k+1)<p.it.length - k;omega,BP hF [4,2] rfl (rfl) ⟨rfl,rfl,rfl,rfl,trivial⟩⟩
     ·refine C6 (AF (AJ (AD Z Z (AH (Af ?_)))));exact ⟨_,[],[],Ae rfl,rfl,rfl,Al (XW hsz hr0 hi0 (by rw [hk,GT (by have h:=h61;omega)])),rfl⟩
abbrev Ml (T:TypeId) (p:Prb):AM:= .blk T [.d (.sl none (p.ro.map DT)),.d (.sl none (p.it.map Aw))]
theorem NH {α β:Type} {l:List α} {f:α ->β} {m k:Nat} (hk:k<l.length) (hm:m<k) {b:β} (h:f l[m]=b):b∈(l.take k).map f:=by
 refine List.mem_map.2 ⟨l[m],?_,h⟩;rw [List.mem_take_iff_getElem];exact ⟨m,by omega,rfl⟩
theorem Ve {α β:Type} {l:List α} {f:α ->β} {m:Nat} (hm:m<l.length) {b:β} (h:b∉(l.take m).map f) (h2:f l[m]≠b):b∉(l.take (m+1)).map f:=by
 rw [CU hm,List.mem_append,List.mem_singleton];rintro (h3 | h3)
 ·exact h h3
 ·exact h2 h3.symm
def Sml (p:Prb):Prop:=p.it.length≤12∧p.ro.length≤24∧∀i∈p.it,i.po.length≤12∧i.pa.length≤12∧i.af.length≤12
instance (p:Prb):Decidable (Sml p):=inferInstanceAs (Decidable (_∧_∧∀i∈p.it,_))
theorem small_p (p:Prb):AU Tryz.prog 8 [.d (CI p)] (BE (decide (Sml p))):=by
 refine BY Tryz.func8 Z Z Tryz.ntmps8 Z Z Z fun F hF=>(AF (AJ (U (CJ 1 Z Z Z Z Z Z Z) (AD Z Z (AH (AF (AF (AJ ?_))))))))
 first | refine J (AO rfl G4 Z Z Z) ?_ | refine J (AQ rfl G4 Z Z Z) ?_ | refine J (AR rfl G4 Z Z Z) ?_ | refine J (AP rfl G4 Z Z Z) ?_ | refine J (AN rfl G4 Z Z Z) ?_
 first | refine J (A0 Z Z Ek rfl) ?_ | refine J (AY Z Z Z Ek rfl) ?_ | refine J (AZ Z Z (rfl) rfl Ek rfl) ?_
 first | refine J (Cc rfl Tryz.underlying23 rfl) ?_ | refine J (C8 Z Z Tryz.underlying23 rfl) ?_ | refine J (Cd rfl Tryz.underlying23 rfl) ?_ | refine J (Cb rfl Tryz.underlying23 rfl) ?_ | refine J (CW rfl Tryz.underlying23 rfl) ?_ | refine J (C9 rfl Tryz.underlying23 rfl) ?_
 first | refine J (Dj Z Z Z) ?_ | refine J (Co Z Z Z) ?_
 refine AC Z Z ?_
 first | refine K9 8 rfl (fun h8=>?_) (fun h8=>?_) | refine J4 8 rfl (fun h8=>?_) (fun h8=>?_)
 ·refine Aj Z Z Z Z (Aj Z Z Z Z (Aj Z Z Z Z ?_));refine Aj Z Z Z Z (J (EB Z Z Z Z) (AH (Dg Z Z (AF (AJ (AD Z Z (AH (Af ?_))))))));exact ⟨_,[],[],Ae rfl,rfl,rfl,Pd (fun h=>by have h1:=h.1;have h2:=h.2.1;omega),rfl⟩
 ·refine Ah Z Z Z ?_
  first | refine J (AO rfl J0 Z Z Z) ?_ | refine J (AQ rfl J0 Z Z Z) ?_ | refine J (AR rfl J0 Z Z Z) ?_ | refine J (AP rfl J0 Z Z Z) ?_ | refine J (AN rfl J0 Z Z Z) ?_
  refine Ah Z Z Z ?_
  first | refine J (A0 Z Z HO rfl) ?_ | refine J (AY Z Z Z HO rfl) ?_ | refine J (AZ Z Z (rfl) rfl HO rfl) ?_
  refine Ah Z Z Z ?_
  first | refine J (Cc rfl Tryz.underlying22 rfl) ?_ | refine J (C8 Z Z Tryz.underlying22 rfl) ?_ | refine J (Cd rfl Tryz.underlying22 rfl) ?_ | refine J (Cb rfl Tryz.underlying22 rfl) ?_ | refine J (CW rfl Tryz.underlying22 rfl) ?_ | refine J (C9 rfl Tryz.underlying22 rfl) ?_
  refine Ah Z Z Z ?_
  first | refine J (Dj Z Z Z) ?_ | refine J (Co Z Z Z) ?_
  refine J (Ei Z Z Z Z) (AH ?_)
  first | refine BJ rfl (fun h13=>?_) (fun h13=>?_) | refine BB rfl (fun h13=>?_) (fun h13=>?_)
  ·refine AF (AJ (AD Z Z (AH (Af ?_))));exact ⟨_,[],[],Ae rfl,rfl,rfl,Pd (fun h=>by have h1:=h.1;have h2:=h.2.1;omega),rfl⟩
  ·refine Am (AF (AF (AJ (AD Z Z (AH (Au (De (α:=Nat) (fun k=>⟨49,[(1,(.ptr 1 0 0)),(3,(.d (AG (k:Int))))],[(1,[Ml 25 p])]⟩) (fun k=>k≤p.it.length∧∀i∈p.it.take k,i.po.length≤12∧i.pa.length≤12∧i.af.length≤12) (fun k=>p.it.length - k) (0) (⟨Nat.zero_le _,by simp⟩) (BP hF [1] Z Z ⟨rfl,rfl,trivial⟩) ?_)))))));rintro k ⟨hk0,hk⟩;refine AF (AF (AJ (AC Z Z ?_)))
   first | refine J (AO rfl G4 Z Z Z) ?_ | refine J (AQ rfl G4 Z Z Z) ?_ | refine J (AR rfl G4 Z Z Z) ?_ | refine J (AP rfl G4 Z Z Z) ?_ | refine J (AN rfl G4 Z Z Z) ?_
   first | refine J (A0 Z Z Ek rfl) ?_ | refine J (AY Z Z Z Ek rfl) ?_ | refine J (AZ Z Z (rfl) rfl Ek rfl) ?_
   first | refine J (Cc rfl Tryz.underlying23 rfl) ?_ | refine J (C8 Z Z Tryz.underlying23 rfl) ?_ | refine J (Cd rfl Tryz.underlying23 rfl) ?_ | refine J (Cb rfl Tryz.underlying23 rfl) ?_ | refine J (CW rfl Tryz.underlying23 rfl) ?_ | refine J (C9 rfl Tryz.underlying23 rfl) ?_
   first | refine J (C7 Z Z Z) ?_ | refine J (Ca Z Z Z) ?_
   refine AH ?_
   first | refine BJ rfl (fun h18=>?_) (fun h18=>?_) | refine BB rfl (fun h18=>?_) (fun h18=>?_)
   ·have hk1:k<p.it.length:=DZ h18;refine Am (AF (Au (AF (AJ ?_))))
    first | refine J (AO rfl G4 Z Z Z) ?_ | refine J (AQ rfl G4 Z Z Z) ?_ | refine J (AR rfl G4 Z Z Z) ?_ | refine J (AP rfl G4 Z Z Z) ?_ | refine J (AN rfl G4 Z Z Z) ?_
    first | refine J (A0 Z Z Ek rfl) ?_ | refine J (AY Z Z Z Ek rfl) ?_ | refine J (AZ Z Z (rfl) rfl Ek rfl) ?_
    refine AC Z Z ?_
    first | refine J (CY (k) Z Z (rfl) (A2 hk1) Tryz.underlying23 rfl Nq rfl) ?_ | refine J (CZ (k) Z Z (rfl) (A2 hk1) rfl Tryz.underlying23 Nq rfl) ?_
    first | refine J (AO rfl J3 Z Z Z) ?_ | refine J (AQ rfl J3 Z Z Z) ?_ | refine J (AR rfl J3 Z Z Z) ?_ | refine J (AP rfl J3 Z Z Z) ?_ | refine J (AN rfl J3 Z Z Z) ?_
    first | refine J (A0 Z Z HL rfl) ?_ | refine J (AY Z Z Z HL rfl) ?_ | refine J (AZ Z Z (rfl) rfl HL rfl) ?_
    first | refine J (Cc rfl Tryz.underlying69 rfl) ?_ | refine J (C8 Z Z Tryz.underlying69 rfl) ?_ | refine J (Cd rfl Tryz.underlying69 rfl) ?_ | refine J (Cb rfl Tryz.underlying69 rfl) ?_ | refine J (CW rfl Tryz.underlying69 rfl) ?_ | refine J (C9 rfl Tryz.underlying69 rfl) ?_
    first | refine J (Dj Z Z Z) ?_ | refine J (Co Z Z Z) ?_
    refine AC Z Z ?_
    first | refine K9 29 rfl (fun h29=>?_) (fun h29=>?_) | refine J4 29 rfl (fun h29=>?_) (fun h29=>?_)
    ·refine Aj Z Z Z Z (Aj Z Z Z Z (Aj Z Z Z Z (Aj Z Z Z Z (Aj Z Z Z Z (Aj Z Z Z Z (Aj Z Z Z Z (Aj Z Z Z Z ?_)))))));refine J (EB Z Z Z Z) (AC Z Z (Aj Z Z Z Z (Aj Z Z Z Z (Aj Z Z Z Z (Aj Z Z Z Z (Aj Z Z Z Z (Aj Z Z Z Z (Aj Z Z Z Z ?_))))))));refine Aj Z Z Z Z (J (EB Z Z Z Z) (AH (Dg Z Z (AF (AJ (AD Z Z (AH (Af ?_))))))));exact ⟨_,[],[],Ae rfl,rfl,rfl,Pd (fun h=>by have h1:=h.2.2 _ (List.getElem_mem hk1);omega),rfl⟩
    ·refine Ah Z Z Z ?_
     first | refine J (AO rfl G4 Z Z Z) ?_ | refine J (AQ rfl G4 Z Z Z) ?_ | refine J (AR rfl G4 Z Z Z) ?_ | refine J (AP rfl G4 Z Z Z) ?_ | refine J (AN rfl G4 Z Z Z) ?_
     refine Ah Z Z Z ?_
     first | refine J (A0 Z Z Ek rfl) ?_ | refine J (AY Z Z Z Ek rfl) ?_ | refine J (AZ Z Z (rfl) rfl Ek rfl) ?_
     refine Ah Z Z Z (AC Z Z (Ah Z Z Z ?_))
     first | refine J (CY (k) Z Z (rfl) (A2 hk1) Tryz.underlying23 rfl Nq rfl) ?_ | refine J (CZ (k) Z Z (rfl) (A2 hk1) rfl Tryz.underlying23 Nq rfl) ?_
     refine Ah Z Z Z ?_
     first | refine J (AO rfl PS Z Z Z) ?_ | refine J (AQ rfl PS Z Z Z) ?_ | refine J (AR rfl PS Z Z Z) ?_ | refine J (AP rfl PS Z Z Z) ?_ | refine J (AN rfl PS Z Z Z) ?_
     refine Ah Z Z Z ?_
     first | refine J (A0 Z Z Lu rfl) ?_ | refine J (AY Z Z Z Lu rfl) ?_ | refine J (AZ Z Z (rfl) rfl Lu rfl) ?_
     refine Ah Z Z Z ?_
     first | refine J (Cc rfl Tryz.underlying70 rfl) ?_ | refine J (C8 Z Z Tryz.underlying70 rfl) ?_ | refine J (Cd rfl Tryz.underlying70 rfl) ?_ | refine J (Cb rfl Tryz.underlying70 rfl) ?_ | refine J (CW rfl Tryz.underlying70 rfl) ?_ | refine J (C9 rfl Tryz.underlying70 rfl) ?_
     refine Ah Z Z Z ?_
     first | refine J (Dj Z Z Z) ?_ | refine J (Co Z Z Z) ?_
     refine J (Ei Z Z Z Z) (AC Z Z ?_)
     first | refine K9 39 rfl (fun h39=>?_) (fun h39=>?_) | refine J4 39 rfl (fun h39=>?_) (fun h39=>?_)
     ·refine Aj Z Z Z Z (Aj Z Z Z Z (Aj Z Z Z Z (Aj Z Z Z Z (Aj Z Z Z Z (Aj Z Z Z Z (Aj Z Z Z Z ?_))))));refine Aj Z Z Z Z (J (EB Z Z Z Z) (AH (Dg Z Z (AF (AJ (AD Z Z (AH (Af ?_))))))));exact ⟨_,[],[],Ae rfl,rfl,rfl,Pd (fun h=>by have h1:=h.2.2 _ (List.getElem_mem hk1);omega),rfl⟩
     ·refine Ah Z Z Z ?_
      first | refine J (AO rfl G4 Z Z Z) ?_ | refine J (AQ rfl G4 Z Z Z) ?_ | refine J (AR rfl G4 Z Z Z) ?_ | refine J (AP rfl G4 Z Z Z) ?_ | refine J (AN rfl G4 Z Z Z) ?_
      refine Ah Z Z Z ?_
      first | refine J (A0 Z Z Ek rfl) ?_ | refine J (AY Z Z Z Ek rfl) ?_ | refine J (AZ Z Z (rfl) rfl Ek rfl) ?_
      refine Ah Z Z Z (AC Z Z (Ah Z Z Z ?_))
      first | refine J (CY (k) Z Z (rfl) (A2 hk1) Tryz.underlying23 rfl Nq rfl) ?_ | refine J (CZ (k) Z Z (rfl) (A2 hk1) rfl Tryz.underlying23 Nq rfl) ?_
      refine Ah Z Z Z ?_
      first | refine J (AO rfl DJ Z Z Z) ?_ | refine J (AQ rfl DJ Z Z Z) ?_ | refine J (AR rfl DJ Z Z Z) ?_ | refine J (AP rfl DJ Z Z Z) ?_ | refine J (AN rfl DJ Z Z Z) ?_
      refine Ah Z Z Z ?_
      first | refine J (A0 Z Z Aq rfl) ?_ | refine J (AY Z Z Z Aq rfl) ?_ | refine J (AZ Z Z (rfl) rfl Aq rfl) ?_
      refine Ah Z Z Z ?_
      first | refine J (Cc rfl Tryz.underlying33 rfl) ?_ | refine J (C8 Z Z Tryz.underlying33 rfl) ?_ | refine J (Cd rfl Tryz.underlying33 rfl) ?_ | refine J (Cb rfl Tryz.underlying33 rfl) ?_ | refine J (CW rfl Tryz.underlying33 rfl) ?_ | refine J (C9 rfl Tryz.underlying33 rfl) ?_
      refine Ah Z Z Z ?_
      first | refine J (Dj Z Z Z) ?_ | refine J (Co Z Z Z) ?_
      refine J (Ei Z Z Z Z) (AH ?_)
      first | refine BJ rfl (fun h48=>?_) (fun h48=>?_) | refine BB rfl (fun h48=>?_) (fun h48=>?_)
      ·refine AF (AJ (AD Z Z (AH (Af ?_))));exact ⟨_,[],[],Ae rfl,rfl,rfl,Pd (fun h=>by have h1:=h.2.2 _ (List.getElem_mem hk1);omega),rfl⟩
      ·refine Am (AJ (AC Z Z (J (Bi Z Z (A6 (k+1) (by omega)) rfl) (AD Z Z (AH ?_)))));exact ⟨k+1,⟨by show k+1≤_;omega,by rw [List.take_succ_eq_append_getElem hk1];intro i hi;rcases List.mem_append.1 hi with hi | hi;exact hk i hi;rw [List.mem_singleton.1 hi];omega⟩,by show p.it.length - (k+1)<p.it.length - k;omega,BP hF [1] rfl (rfl) ⟨rfl,rfl,trivial⟩⟩
   ·refine C6 (AF (AJ (AD Z Z (AH (Af ?_)))));exact ⟨_,[],[],Ae rfl,rfl,rfl,retT ⟨by omega,by omega,fun i hi=>hk i (by rw [List.take_of_length_le (by have h:=h18;omega)];exact hi)⟩,rfl⟩
def Nz:List AT ->AT ->List AT
 | [],x=> [x]
 | a::l,x=>if ∀y∈a::l,Iz x y<0 then x::a::l else a::Nz l x
def sortO (l:List AT):List AT:=l.foldl Nz []
theorem YW (l:List AT) (x:AT):(Nz l x).length=l.length+1:=by
 induction l with
 | nil=>rfl
 | cons a l ih=>
  simp only [Nz];split
  ·rfl
  ·simp only [List.length_cons,ih]
theorem Iq (l:List AT) (x:AT):sortO (l++ [x])=Nz (sortO l) x:=by simp [sortO]
theorem ON (l:List AT):(sortO l).length=l.length:=by
 induction l using ZB with
 | h0=>rfl
 | h1 l x ih=>rw [Iq,YW,ih];simp
def qIds (l:List AT) (r:A4):List Int:=(l.filter fun i=>decide (CM i r<0)).map AT.id
theorem K0 (l:List Er) (hl:l.length≤1000000):AU Tryz.prog 92 [.d (.sl none (l.map Cf))] (.sl none (l.map Cf)):=by
 refine BY Tryz.func92 Z Z Tryz.ntmps92 Z Z Z fun F hF=>(AF ?_);refine AJ (AD Z Z (S4 2 rfl (AH (AF (AF (AJ (AC Z Z (Gn 3 rfl (fun h0=>?_) ?_))))))))
 ·first | refine J (EP Z Z Z) ?_ | refine J (EW Z Z Z) ?_ | refine J (EA Z Z Z) ?_ | refine J (EQ Tryz.underlying46 Z Z Z) ?_ | refine J (ET Tryz.underlying46 Z Z Z) ?_ | refine J (ES Tryz.underlying46 Z Z) ?_ | refine J (ER Tryz.underlying46 Z Z Z) ?_ | refine J (EV Tryz.underlying46 Z Z) ?_
  refine AH (Dg rfl (rfl) (AF (AJ (AD Z Z (S4 2 rfl (AH (Af ?_)))))));exact ⟨_,[],[],Ae rfl,rfl,rfl,by first | (rw [h0];done) | (rw [h0]),rfl⟩
 ·first | refine J (EP Z Z Z) ?_ | refine J (EW Z Z Z) ?_ | refine J (EA Z Z Z) ?_ | refine J (EQ Tryz.underlying46 Z Z Z) ?_ | refine J (ET Tryz.underlying46 Z Z Z) ?_ | refine J (ES Tryz.underlying46 Z Z) ?_ | refine J (ER Tryz.underlying46 Z Z Z) ?_ | refine J (EV Tryz.underlying46 Z Z) ?_
  refine AH (Ey rfl (rfl) (Am (AF (AJ (U (Fg 20 P9 Z Z Z Z Z Z Z Z) (AC Z Z ?_))))))
  first | refine U (Ib (([]:List Er)) (l) Z Z Z Z Z Z Z Z P9 (by simp only [List.length_nil];omega) Z Z Z Z) ?_ | refine U (Ka (([]:List Er)) (l) Z Z Z Z Z Z (fun _=>rfl) P9 (by simp only [List.length_nil];omega) Z Z Z Z) ?_
  refine Zc8 (emb:=Cf) 7 20 ([]++l) Z Z Z Z Z Z Z (AD Z Z ?_);skip;refine AH (Af ?_);exact ⟨_,[],[],Ae rfl,rfl,rfl,rfl,rfl⟩
theorem KZ (l:List Lo) (hl:l.length≤1000000):AU Tryz.prog 93 [.d (.sl none (l.map Gl))] (.sl none (l.map Gl)):=by
 refine BY Tryz.func93 Z Z Tryz.ntmps93 Z Z Z fun F hF=>(AF ?_);refine AJ (AD Z Z (S4 2 rfl (AH (AF (AF (AJ (AC Z Z (Gn 3 rfl (fun h0=>?_) ?_))))))))
 ·first | refine J (EP Z Z Z) ?_ | refine J (EW Z Z Z) ?_ | refine J (EA Z Z Z) ?_ | refine J (EQ Tryz.underlying47 Z Z Z) ?_ | refine J (ET Tryz.underlying47 Z Z Z) ?_ | refine J (ES Tryz.underlying47 Z Z) ?_ | refine J (ER Tryz.underlying47 Z Z Z) ?_ | refine J (EV Tryz.underlying47 Z Z) ?_
  refine AH (Dg rfl (rfl) (AF (AJ (AD Z Z (S4 2 rfl (AH (Af ?_)))))));exact ⟨_,[],[],Ae rfl,rfl,rfl,by first | (rw [h0];done) | (rw [h0]),rfl⟩
 ·first | refine J (EP Z Z Z) ?_ | refine J (EW Z Z Z) ?_ | refine J (EA Z Z Z) ?_ | refine J (EQ Tryz.underlying47 Z Z Z) ?_ | refine J (ET Tryz.underlying47 Z Z Z) ?_ | refine J (ES Tryz.underlying47 Z Z) ?_ | refine J (ER Tryz.underlying47 Z Z Z) ?_ | refine J (EV Tryz.underlying47 Z Z) ?_
  refine AH (Ey rfl (rfl) (Am (AF (AJ (U (Fg 20 Qo Z Z Z Z Z Z Z Z) (AC Z Z ?_))))))
  first | refine U (Ib (([]:List Lo)) (l) Z Z Z Z Z Z Z Z Qo (by simp only [List.length_nil];omega) Z Z Z Z) ?_ | refine U (Ka (([]:List Lo)) (l) Z Z Z Z Z Z (fun _=>rfl) Qo (by simp only [List.length_nil];omega) Z Z Z Z) ?_
  refine Zc8 (emb:=Gl) 7 20 ([]++l) Z Z Z Z Z Z Z (AD Z Z ?_);skip;refine AH (Af ?_);exact ⟨_,[],[],Ae rfl,rfl,rfl,rfl,rfl⟩
theorem SE (l:List Int) (hl:l.length≤1000000):AU Tryz.prog 94 [.d (.sl none (l.map AG))] (.sl none (l.map AG)):=by
 refine BY Tryz.func94 Z Z Tryz.ntmps94 Z Z Z fun F hF=>(AF ?_);refine AJ (AD Z Z (S4 2 rfl (AH (AF (AF (AJ (AC Z Z (Gn 3 rfl (fun h0=>?_) ?_))))))))
 ·first | refine J (EP Z Z Z) ?_ | refine J (EW Z Z Z) ?_ | refine J (EA Z Z Z) ?_ | refine J (EQ Tryz.underlying33 Z Z Z) ?_ | refine J (ET Tryz.underlying33 Z Z Z) ?_ | refine J (ES Tryz.underlying33 Z Z) ?_ | refine J (ER Tryz.underlying33 Z Z Z) ?_ | refine J (EV Tryz.underlying33 Z Z) ?_
  refine AH (Dg rfl (rfl) (AF (AJ (AD Z Z (S4 2 rfl (AH (Af ?_)))))));exact ⟨_,[],[],Ae rfl,rfl,rfl,by first | (rw [h0];done) | (rw [h0]),rfl⟩
 ·first | refine J (EP Z Z Z) ?_ | refine J (EW Z Z Z) ?_ | refine J (EA Z Z Z) ?_ | refine J (EQ Tryz.underlying33 Z Z Z) ?_ | refine J (ET Tryz.underlying33 Z Z Z) ?_ | refine J (ES Tryz.underlying33 Z Z) ?_ | refine J (ER Tryz.underlying33 Z Z Z) ?_ | refine J (EV Tryz.underlying33 Z Z) ?_
  refine AH (Ey rfl (rfl) (Am (AF (AJ (U (Fg 20 DA Z Z Z Z Z Z Z Z) (AC Z Z ?_))))))
  first | refine U (Ib (([]:List Int)) (l) Z Z Z Z Z Z Z Z DA (by simp only [List.length_nil];omega) Z Z Z Z) ?_ | refine U (Ka (([]:List Int)) (l) Z Z Z Z Z Z (fun _=>rfl) DA (by simp only [List.length_nil];omega) Z Z Z Z) ?_
  refine Zc8 (emb:=AG) 7 20 ([]++l) Z Z Z Z Z Z Z (AD Z Z ?_);skip;refine AH (Af ?_);exact ⟨_,[],[],Ae rfl,rfl,rfl,rfl,rfl⟩
theorem clone_p (i:AT) (g1:i.po.length≤1000000) (g2:i.pa.length≤1000000) (g3:i.af.length≤1000000):AU Tryz.prog 43 [.d (Aw i)] (Aw i):=by
 refine BY Tryz.func43 Z Z Tryz.ntmps43 Z Z Z fun F hF=>(AF (AJ (U (CJ 1 Z Z Z Z Z Z Z) (U (Cm 2 Da Z Z Z Z) (AH (AF (G8 [[],[0],[0,1],[],[3],[0,1,2,3,4],[],[6],[0,1,2,3,4,5,6,7],[0,1,2,3,4,6,7],[0,1,2,3,4,5,6,7,8,9],[0,1,2,3,4,5,6,7,8,9,10],[0,1,2,3,4,5,6,7,8,9,10,11],[0,1,2,3,4,5,6,7,8,9,10,11,12],[0,1,2,3,4,5,6,7,8,9,10,11,12,13]] BC rfl (Hq ?_))))))))
 first | refine AE [1] [] Z Z (fun _=>AB (AO rfl C1 Z Z Z)) ?_ | refine AI [1] Z Z (fun _=>AB (AO rfl C1 Z Z Z)) ?_ | refine AE [1] [] Z Z (fun _=>AB (AQ rfl C1 Z Z Z)) ?_ | refine AI [1] Z Z (fun _=>AB (AQ rfl C1 Z Z Z)) ?_ | refine AE [1] [] Z Z (fun _=>AB (AR rfl C1 Z Z Z)) ?_ | refine AI [1] Z Z (fun _=>AB (AR rfl C1 Z Z Z)) ?_ | refine AE [1] [] Z Z (fun _=>AB (AP rfl C1 Z Z Z)) ?_ | refine AI [1] Z Z (fun _=>AB (AP rfl C1 Z Z Z)) ?_ | refine AE [1] [] Z Z (fun _=>AB (AN rfl C1 Z Z Z)) ?_ | refine AI [1] Z Z (fun _=>AB (AN rfl C1 Z Z Z)) ?_
 first | refine AE [3] [1] Z Z (fun _=>AB (A0 Z Z Ej rfl)) ?_ | refine AE [3] [1] Z Z (fun _=>AB (AY Z Z Z Ej rfl)) ?_ | refine AE [3] [1] Z Z (fun _=>AB (AZ Z Z (rfl) rfl Ej rfl)) ?_
 first | refine AE [4] [] Z Z (fun _=>AB (BF (K0 i.po g1) Z Z)) ?_ | refine AI [4] Z Z (fun _=>AB (BF (K0 i.po g1) Z Z)) ?_
 first | refine AE [1] [] Z Z (fun _=>AB (AO rfl DX Z Z Z)) ?_ | refine AI [1] Z Z (fun _=>AB (AO rfl DX Z Z Z)) ?_ | refine AE [1] [] Z Z (fun _=>AB (AQ rfl DX Z Z Z)) ?_ | refine AI [1] Z Z (fun _=>AB (AQ rfl DX Z Z Z)) ?_ | refine AE [1] [] Z Z (fun _=>AB (AR rfl DX Z Z Z)) ?_ | refine AI [1] Z Z (fun _=>AB (AR rfl DX Z Z Z)) ?_ | refine AE [1] [] Z Z (fun _=>AB (AP rfl DX Z Z Z)) ?_ | refine AI [1] Z Z (fun _=>AB (AP rfl DX Z Z Z)) ?_ | refine AE [1] [] Z Z (fun _=>AB (AN rfl DX Z Z Z)) ?_ | refine AI [1] Z Z (fun _=>AB (AN rfl DX Z Z Z)) ?_
 first | refine AE [6] [1] Z Z (fun _=>AB (A0 Z Z Fm rfl)) ?_ | refine AE [6] [1] Z Z (fun _=>AB (AY Z Z Z Fm rfl)) ?_ | refine AE [6] [1] Z Z (fun _=>AB (AZ Z Z (rfl) rfl Fm rfl)) ?_
 first | refine AE [7] [] Z Z (fun _=>AB (BF (KZ i.pa g2) Z Z)) ?_ | refine AI [7] Z Z (fun _=>AB (BF (KZ i.pa g2) Z Z)) ?_
 first | refine AE [1] [] Z Z (fun _=>AB (AO rfl Ct Z Z Z)) ?_ | refine AI [1] Z Z (fun _=>AB (AO rfl Ct Z Z Z)) ?_ | refine AE [1] [] Z Z (fun _=>AB (AQ rfl Ct Z Z Z)) ?_ | refine AI [1] Z Z (fun _=>AB (AQ rfl Ct Z Z Z)) ?_ | refine AE [1] [] Z Z (fun _=>AB (AR rfl Ct Z Z Z)) ?_ | refine AI [1] Z Z (fun _=>AB (AR rfl Ct Z Z Z)) ?_ | refine AE [1] [] Z Z (fun _=>AB (AP rfl Ct Z Z Z)) ?_ | refine AI [1] Z Z (fun _=>AB (AP rfl Ct Z Z Z)) ?_ | refine AE [1] [] Z Z (fun _=>AB (AN rfl Ct Z Z Z)) ?_ | refine AI [1] Z Z (fun _=>AB (AN rfl Ct Z Z Z)) ?_
 first | refine AE [9] [1] Z Z (fun _=>AB (A0 Z Z Aq rfl)) ?_ | refine AE [9] [1] Z Z (fun _=>AB (AY Z Z Z Aq rfl)) ?_ | refine AE [9] [1] Z Z (fun _=>AB (AZ Z Z (rfl) rfl Aq rfl)) ?_
 first | refine AE [10] [] Z Z (fun _=>AB (BF (SE i.af g3) Z Z)) ?_ | refine AI [10] Z Z (fun _=>AB (BF (SE i.af g3) Z Z)) ?_
 first | refine AE [1] [] Z Z (fun _=>AB (AO rfl C1 Z Z Z)) ?_ | refine AI [1] Z Z (fun _=>AB (AO rfl C1 Z Z Z)) ?_ | refine AE [1] [] Z Z (fun _=>AB (AQ rfl C1 Z Z Z)) ?_ | refine AI [1] Z Z (fun _=>AB (AQ rfl C1 Z Z Z)) ?_ | refine AE [1] [] Z Z (fun _=>AB (AR rfl C1 Z Z Z)) ?_ | refine AI [1] Z Z (fun _=>AB (AR rfl C1 Z Z Z)) ?_ | refine AE [1] [] Z Z (fun _=>AB (AP rfl C1 Z Z Z)) ?_ | refine AI [1] Z Z (fun _=>AB (AP rfl C1 Z Z Z)) ?_ | refine AE [1] [] Z Z (fun _=>AB (AN rfl C1 Z Z Z)) ?_ | refine AI [1] Z Z (fun _=>AB (AN rfl C1 Z Z Z)) ?_
 refine GZ 10 Z Z Z (BD 11 Z Z (U (Bj Z Z Z Z Z Z Z sz46) (AH ⟨rfl,?_⟩)));refine BD 12 Z Z ?_
 first | refine J (AO rfl DX Z Z Z) ?_ | refine J (AQ rfl DX Z Z Z) ?_ | refine J (AR rfl DX Z Z Z) ?_ | refine J (AP rfl DX Z Z Z) ?_ | refine J (AN rfl DX Z Z Z) ?_
 refine AH ⟨rfl,?_⟩;refine BD 13 Z Z (U (Bj Z Z Z Z Z Z Z sz47) (AH ⟨rfl,?_⟩));refine BD 14 Z Z ?_
 first | refine J (AO rfl Ct Z Z Z) ?_ | refine J (AQ rfl Ct Z Z Z) ?_ | refine J (AR rfl Ct Z Z Z) ?_ | refine J (AP rfl Ct Z Z Z) ?_ | refine J (AN rfl Ct Z Z Z) ?_
 refine AH ⟨rfl,?_⟩;refine BD 15 Z Z (U (Bj Z Z Z Z Z Z Z sz33) (AH ⟨rfl,?_⟩));refine GY (AF (AJ ?_))
 first | refine J (An Z Z A7 rfl) ?_ | refine J (Ao Z Z A7 Z Z Z) ?_ | refine J (Ap Z Z (rfl) rfl A7 rfl) ?_
 refine U (Bj Z Z Z Z Z Z Z Br) (AH (Af ?_));exact ⟨_,[],[],Ae rfl,rfl,rfl,rfl,rfl⟩
end Go.Proofs.YtnkkaeblokdifaaGreat
