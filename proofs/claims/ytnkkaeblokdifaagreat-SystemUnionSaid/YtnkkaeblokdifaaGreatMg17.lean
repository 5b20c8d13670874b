/- Layer 28: the example of the document; the reference's order. -/
import Derived.Test.YtnkkaeblokdifaaGreatMg16
namespace Go.Proofs.YtnkkaeblokdifaaGreat
open Go.RowKit
set_option maxRecDepth 100000
def accA:Ok:=⟨[65],0,[67,65,83,72]⟩
def accB:Ok:=⟨[66],0,[67,65,83,72]⟩
def LA:AU:=⟨1,0,1,[⟨accA,-5⟩,⟨accB,5⟩],[⟨[65],[66],5⟩],[]⟩
theorem Q2:B9 LA=0:=by decide
theorem Uy:dltS LA=[(Gd ⟨accA,-5⟩,-5),(Gd ⟨accB,5⟩,5),(DP [65] [66],-5),(DP [66] [65],5),(EI [65],-5),(EI [66],5)]:=by decide
theorem S4:AT Tryz.prog 111 [.d (AF 1),.d (AF 5)] (.agg [AF 1,AF 0,AF 1,.sl none (LA.po.map C7),.sl none (LA.pa.map Gl),.sl (some true) []]):=by
 refine B6 Tryz.func111 Z Z Tryz.ntmps111 Z Z Z fun F hF=>(AG (AJ (G (DT 1 FI Z Z Z Z) (AI (AG (AJ (J (DC NN QZ Z Z Z) (J (DC NN QZ Z Z Z) ?_))))))));refine G (DT 2 NN Z Z Z Z) (G (DT 3 NN Z Z Z Z) (G (CC Z Z Z Z Z Z Z sz51) (G (CC Z Z Z Z Z Z Z sz51) (AI (AG (AJ (AC Z Z (AC Z Z ?_))))))))
 first | refine J (At Z Z Gj rfl) ?_ | refine J (Au Z Z Gj Z Z Z) ?_ | refine J (Av Z Z (rfl) rfl Gj rfl) ?_
 refine AC Z Z (J (WR rfl (show IntKind.i64.wrap (0 - 5)= -5 from by decide) rfl) (J (DC JL OA Z Z Z) ?_))
 first | refine J (At Z Z Gj rfl) ?_ | refine J (Au Z Z Gj Z Z Z) ?_ | refine J (Av Z Z (rfl) rfl Gj rfl) ?_
 refine AC Z Z (J (DC JL OA Z Z Z) (G (Fg 4 PD Z Z Z Z Z Z Z Z) ?_));refine Zc2 (emb:=C7) 18 4 LA.po Z Z Z Z Z Z Z (AC Z Z (J (DC Vu pl135 Z Z Z) (G (Fg 5 QN Z Z Z Z Z Z Z Z) (Zc2 (emb:=Gl) 21 5 LA.pa Z Z Z Z Z Z Z (J (DC FI Wo Z Z Z) (G (CC Z Z Z Z Z Z Z Cq) (AI (Af ?_))))))));exact ⟨_,[],[],Ae rfl,rfl,rfl,rfl,rfl⟩
theorem Uv:AT Tryz.prog 111 [.d (AF 1),.d (AF 5)] (BC LA):=
 S4.weak fun w O v h=>h.aggMono rfl (by simp [D.one]) fun i c c' hc hc' v hv=>by
  match i,hc,hc' with
  | 0,hc,hc'=>injection hc with hc;injection hc' with hc';subst hc hc';exact hv
  | 1,hc,hc'=>injection hc with hc;injection hc' with hc';subst hc hc';exact hv
  | 2,hc,hc'=>injection hc with hc;injection hc' with hc';subst hc hc';exact hv
  | 3,hc,hc'=>injection hc with hc;injection hc' with hc';subst hc hc';exact hv
  | 4,hc,hc'=>injection hc with hc;injection hc' with hc';subst hc hc';exact hv
  | 5,hc,hc'=>injection hc with hc;injection hc' with hc';subst hc hc';exact hv.anyNil
theorem known_p:AT Tryz.prog 56 [] (.raw (.bool true)):=by
 have hd:=RU LA (by decide) (by decide) (by decide);rw [Q2,Uy] at hd;refine B6 Tryz.func56 Z Z Tryz.ntmps56 Z Z Z fun F hF=>?_;refine AG (AJ (AD Z Z (AI (AG (AJ (J (BO (Uv) Z Z) (J (BO (hd) Z Z) (AC Z Z ?_))))))))
 first | refine J (BU Z Z Z) ?_ | refine J (BV Z Z Z) ?_
 first | refine J (BU Z Z Z) ?_ | refine J (BV Z Z Z) ?_
 refine AD Z Z (AD Z Z (AI (AG (AJ (AC Z Z ?_)))))
 first | refine J (EX Z Z Z) ?_ | refine J (EY Z Z Z) ?_ | refine J (EO Z Z Z) ?_ | refine J (ER Tryz.underlying34 Z Z Z) ?_ | refine J (EU Tryz.underlying34 Z Z Z) ?_ | refine J (ET Tryz.underlying34 Z Z) ?_ | refine J (ES Tryz.underlying34 Z Z Z) ?_ | refine J (EW Tryz.underlying34 Z Z) ?_
 refine AC Z Z (NI 10 rfl (rfl) (A9 Z Z Z (AC Z Z (A9 Z Z Z ?_))))
 first | refine J (Co rfl Tryz.underlying44 rfl) ?_ | refine J (C1 Z Z Tryz.underlying44 rfl) ?_ | refine J (Cp rfl Tryz.underlying44 rfl) ?_ | refine J (Cn rfl Tryz.underlying44 rfl) ?_ | refine J (Ca rfl Tryz.underlying44 rfl) ?_ | refine J (Ck rfl Tryz.underlying44 rfl) ?_
 refine A9 Z Z Z ?_
 first | refine J (EX Z Z Z) ?_ | refine J (EY Z Z Z) ?_ | refine J (EO Z Z Z) ?_ | refine J (ER Tryz.underlying3 Z Z Z) ?_ | refine J (EU Tryz.underlying3 Z Z Z) ?_ | refine J (ET Tryz.underlying3 Z Z) ?_ | refine J (ES Tryz.underlying3 Z Z Z) ?_ | refine J (EW Tryz.underlying3 Z Z) ?_
 refine J (DX Z Z Z Z) (AC Z Z (NI 15 rfl (rfl) (A9 Z Z Z (AC Z Z (A9 Z Z Z ?_)))))
 first | refine J (Ch (0) Z Z (rfl) (rfl) Tryz.underlying44 rfl I2 rfl) ?_ | refine J (Cj (0) Z Z (rfl) (rfl) rfl Tryz.underlying44 I2 rfl) ?_
 refine A9 Z Z Z ?_
 first | refine J (AO rfl JF Z Z Z) ?_ | refine J (AQ rfl JF Z Z Z) ?_ | refine J (AR rfl JF Z Z Z) ?_ | refine J (AP rfl JF Z Z Z) ?_ | refine J (AN rfl JF Z Z Z) ?_
 refine A9 Z Z Z ?_
 first | refine J (A0 Z Z Be rfl) ?_ | refine J (AX Z Z Z Be rfl) ?_ | refine J (AZ Z Z (rfl) rfl Be rfl) ?_
 refine A9 Z Z Z ?_
 first | refine J (EX Z Z Z) ?_ | refine J (EY Z Z Z) ?_ | refine J (EO Z Z Z) ?_ | refine J (ER Tryz.underlying2 Z Z Z) ?_ | refine J (EU Tryz.underlying2 Z Z Z) ?_ | refine J (ET Tryz.underlying2 Z Z) ?_ | refine J (ES Tryz.underlying2 Z Z Z) ?_ | refine J (EW Tryz.underlying2 Z Z) ?_
 refine J (DX Z Z Z Z) (AC Z Z (NI 22 rfl (rfl) (A9 Z Z Z (AC Z Z (A9 Z Z Z ?_)))))
 first | refine J (Ch (1) Z Z (rfl) (rfl) Tryz.underlying44 rfl I2 rfl) ?_ | refine J (Cj (1) Z Z (rfl) (rfl) rfl Tryz.underlying44 I2 rfl) ?_
 refine A9 Z Z Z ?_
 first | refine J (AO rfl JF Z Z Z) ?_ | refine J (AQ rfl JF Z Z Z) ?_ | refine J (AR rfl JF Z Z Z) ?_ | refine J (AP rfl JF Z Z Z) ?_ | refine J (AN rfl JF Z Z Z) ?_
 refine A9 Z Z Z ?_
 first | refine J (A0 Z Z Be rfl) ?_ | refine J (AX Z Z Z Be rfl) ?_ | refine J (AZ Z Z (rfl) rfl Be rfl) ?_
 refine A9 Z Z Z ?_
 first | refine J (EX Z Z Z) ?_ | refine J (EY Z Z Z) ?_ | refine J (EO Z Z Z) ?_ | refine J (ER Tryz.underlying2 Z Z Z) ?_ | refine J (EU Tryz.underlying2 Z Z Z) ?_ | refine J (ET Tryz.underlying2 Z Z) ?_ | refine J (ES Tryz.underlying2 Z Z Z) ?_ | refine J (EW Tryz.underlying2 Z Z) ?_
 refine J (DX Z Z Z Z) (AC Z Z (NI 29 rfl (rfl) (A9 Z Z Z (AC Z Z (A9 Z Z Z ?_)))))
 first | refine J (Ch (2) Z Z (rfl) (rfl) Tryz.underlying44 rfl I2 rfl) ?_ | refine J (Cj (2) Z Z (rfl) (rfl) rfl Tryz.underlying44 I2 rfl) ?_
 refine A9 Z Z Z ?_
 first | refine J (AO rfl JF Z Z Z) ?_ | refine J (AQ rfl JF Z Z Z) ?_ | refine J (AR rfl JF Z Z Z) ?_ | refine J (AP rfl JF Z Z Z) ?_ | refine J (AN rfl JF Z Z Z) ?_
 refine A9 Z Z Z ?_
 first | refine J (A0 Z Z Be rfl) ?_ | refine J (AX Z Z Z Be rfl) ?_ | refine J (AZ Z Z (rfl) rfl Be rfl) ?_
 refine A9 Z Z Z ?_
 first | refine J (EX Z Z Z) ?_ | refine J (EY Z Z Z) ?_ | refine J (EO Z Z Z) ?_ | refine J (ER Tryz.underlying2 Z Z Z) ?_ | refine J (EU Tryz.underlying2 Z Z Z) ?_ | refine J (ET Tryz.underlying2 Z Z) ?_ | refine J (ES Tryz.underlying2 Z Z Z) ?_ | refine J (EW Tryz.underlying2 Z Z) ?_
 refine J (DX Z Z Z Z) (AC Z Z (NI 36 rfl (rfl) (A9 Z Z Z (AC Z Z (A9 Z Z Z ?_)))))
 first | refine J (Ch (3) Z Z (rfl) (rfl) Tryz.underlying44 rfl I2 rfl) ?_ | refine J (Cj (3) Z Z (rfl) (rfl) rfl Tryz.underlying44 I2 rfl) ?_
 refine A9 Z Z Z ?_
 first | refine J (AO rfl JF Z Z Z) ?_ | refine J (AQ rfl JF Z Z Z) ?_ | refine J (AR rfl JF Z Z Z) ?_ | refine J (AP rfl JF Z Z Z) ?_ | refine J (AN rfl JF Z Z Z) ?_
 refine A9 Z Z Z ?_
 first | refine J (A0 Z Z Be rfl) ?_ | refine J (AX Z Z Z Be rfl) ?_ | refine J (AZ Z Z (rfl) rfl Be rfl) ?_
 refine A9 Z Z Z ?_
 first | refine J (EX Z Z Z) ?_ | refine J (EY Z Z Z) ?_ | refine J (EO Z Z Z) ?_ | refine J (ER Tryz.underlying2 Z Z Z) ?_ | refine J (EU Tryz.underlying2 Z Z Z) ?_ | refine J (ET Tryz.underlying2 Z Z) ?_ | refine J (ES Tryz.underlying2 Z Z Z) ?_ | refine J (EW Tryz.underlying2 Z Z) ?_
 refine J (DX Z Z Z Z) (AC Z Z (NI 43 rfl (rfl) (A9 Z Z Z (AC Z Z (A9 Z Z Z ?_)))))
 first | refine J (Ch (4) Z Z (rfl) (rfl) Tryz.underlying44 rfl I2 rfl) ?_ | refine J (Cj (4) Z Z (rfl) (rfl) rfl Tryz.underlying44 I2 rfl) ?_
 refine A9 Z Z Z ?_
 first | refine J (AO rfl JF Z Z Z) ?_ | refine J (AQ rfl JF Z Z Z) ?_ | refine J (AR rfl JF Z Z Z) ?_ | refine J (AP rfl JF Z Z Z) ?_ | refine J (AN rfl JF Z Z Z) ?_
 refine A9 Z Z Z ?_
 first | refine J (A0 Z Z Be rfl) ?_ | refine J (AX Z Z Z Be rfl) ?_ | refine J (AZ Z Z (rfl) rfl Be rfl) ?_
 refine A9 Z Z Z ?_
 first | refine J (EX Z Z Z) ?_ | refine J (EY Z Z Z) ?_ | refine J (EO Z Z Z) ?_ | refine J (ER Tryz.underlying2 Z Z Z) ?_ | refine J (EU Tryz.underlying2 Z Z Z) ?_ | refine J (ET Tryz.underlying2 Z Z) ?_ | refine J (ES Tryz.underlying2 Z Z Z) ?_ | refine J (EW Tryz.underlying2 Z Z) ?_
 refine J (DX Z Z Z Z) (AC Z Z (NI 50 rfl (rfl) (A9 Z Z Z (AC Z Z (A9 Z Z Z ?_)))))
 first | refine J (Ch (5) Z Z (rfl) (rfl) Tryz.underlying44 rfl I2 rfl) ?_ | refine J (Cj (5) Z Z (rfl) (rfl) rfl Tryz.underlying44 I2 rfl) ?_
 refine A9 Z Z Z ?_
 first | refine J (AO rfl Og Z Z Z) ?_ | refine J (AQ rfl Og Z Z Z) ?_ | refine J (AR rfl Og Z Z Z) ?_ | refine J (AP rfl Og Z Z Z) ?_ | refine J (AN rfl Og Z Z Z) ?_
 refine A9 Z Z Z ?_
 first | refine J (AO rfl FO Z Z Z) ?_ | refine J (AQ rfl FO Z Z Z) ?_ | refine J (AR rfl FO Z Z Z) ?_ | refine J (AP rfl FO Z Z Z) ?_ | refine J (AN rfl FO Z Z Z) ?_
 refine A9 Z Z Z ?_
 first | refine J (A0 Z Z Ar rfl) ?_ | refine J (AX Z Z Z Ar rfl) ?_ | refine J (AZ Z Z (rfl) rfl Ar rfl) ?_
 refine A9 Z Z Z ?_
 first | refine J (EX Z Z Z) ?_ | refine J (EY Z Z Z) ?_ | refine J (EO Z Z Z) ?_ | refine J (ER Tryz.underlying9 Z Z Z) ?_ | refine J (EU Tryz.underlying9 Z Z Z) ?_ | refine J (ET Tryz.underlying9 Z Z) ?_ | refine J (ES Tryz.underlying9 Z Z Z) ?_ | refine J (EW Tryz.underlying9 Z Z) ?_
 refine J (DX Z Z Z Z) (AD Z Z (AI (Af ?_)));exact ⟨_,[],[],Ae rfl,rfl,rfl,rfl,rfl⟩
theorem Q5 (r:A5):AT Tryz.prog 22 [.d (E1 r)] (E1 r):=by
 refine B6 Tryz.func22 Z Z Tryz.ntmps22 Z Z Z fun F hF=>(AG (AJ (G (CV 1 Z Z Z Z Z Z Z) (G (DT 2 Gi Z Z Z Z) (AI (AG (AJ ?_)))))))
 first | refine J (AO rfl Mj Z Z Z) ?_ | refine J (AQ rfl Mj Z Z Z) ?_ | refine J (AR rfl Mj Z Z Z) ?_ | refine J (AP rfl Mj Z Z Z) ?_ | refine J (AN rfl Mj Z Z Z) ?_
 first | refine J (A0 Z Z Aa rfl) ?_ | refine J (AX Z Z Z Aa rfl) ?_ | refine J (AZ Z Z (rfl) rfl Aa rfl) ?_
 first | refine J (AO rfl Mi Z Z Z) ?_ | refine J (AQ rfl Mi Z Z Z) ?_ | refine J (AR rfl Mi Z Z Z) ?_ | refine J (AP rfl Mi Z Z Z) ?_ | refine J (AN rfl Mi Z Z Z) ?_
 first | refine J (At Z Z PF rfl) ?_ | refine J (Au Z Z PF Z Z Z) ?_ | refine J (Av Z Z (rfl) rfl PF rfl) ?_
 first | refine J (AO rfl Mh Z Z Z) ?_ | refine J (AQ rfl Mh Z Z Z) ?_ | refine J (AR rfl Mh Z Z Z) ?_ | refine J (AP rfl Mh Z Z Z) ?_ | refine J (AN rfl Mh Z Z Z) ?_
 first | refine J (A0 Z Z Ar rfl) ?_ | refine J (AX Z Z Z Ar rfl) ?_ | refine J (AZ Z Z (rfl) rfl Ar rfl) ?_
 first | refine J (AO rfl Mg Z Z Z) ?_ | refine J (AQ rfl Mg Z Z Z) ?_ | refine J (AR rfl Mg Z Z Z) ?_ | refine J (AP rfl Mg Z Z Z) ?_ | refine J (AN rfl Mg Z Z Z) ?_
 first | refine J (A0 Z Z Ar rfl) ?_ | refine J (AX Z Z Z Ar rfl) ?_ | refine J (AZ Z Z (rfl) rfl Ar rfl) ?_
 refine J (DC Gi J5 Z Z Z) (G (CC Z Z Z Z Z Z Z sz53) (AI (Af ?_)));exact ⟨_,[],[],Ae rfl,rfl,rfl,rfl,rfl⟩
theorem L9 {α:Type} {acc l:List α} (h:acc=l.take acc.length) (hk:acc.length<l.length):acc++ [l[acc.length]]=l.take (acc++ [l[acc.length]]).length:=by
 rw [List.length_append,List.length_singleton,List.take_succ_eq_append_getElem hk,←h]
theorem Oq {α:Type} {acc l:List α} (h:acc=l.take acc.length) (hk:¬acc.length<l.length):acc=l:=by
 rw [h];exact List.take_of_length_le (by omega)
theorem TL {α:Type} (acc:List α) (x:α) (h:acc.length<9223372036854775807):IntKind.i64.wrap ((acc.length:Int)+1)=(((acc++ [x]).length:Nat):Int):=by
 rw [List.length_append];exact Ad (acc.length+1) (by omega)
abbrev II:AV:= .d (.sl (some true) [])
theorem OD (i:AU) (g1:i.po.length≤10000) (g2:i.pa.length≤10000) (g3:i.af.length≤10000):AT Tryz.prog 23 [.d (BC i)] (BC i):=by
 refine B6 Tryz.func23 Z Z Tryz.ntmps23 Z Z Z fun F hF=>(AG (AJ (G (CV 1 Z Z Z Z Z Z Z) (G (DT 2 FI Z Z Z Z) (AI (AG (Gs [[],[0],[],[2],[],[4],[],[],[7],[6,7,8],[0,1,2,3,4,5,6,7,8,9],[],[0,1,2,3,4,5,6,7,8,9,10,11]] BF rfl (IK ?_))))))))
 first | refine AE [1] [] Z Z (fun _=>AB (AO rfl Fb Z Z Z)) ?_ | refine AH [1] Z Z (fun _=>AB (AO rfl Fb Z Z Z)) ?_ | refine AE [1] [] Z Z (fun _=>AB (AQ rfl Fb Z Z Z)) ?_ | refine AH [1] Z Z (fun _=>AB (AQ rfl Fb Z Z Z)) ?_ | refine AE [1] [] Z Z (fun _=>AB (AR rfl Fb Z Z Z)) ?_ | refine AH [1] Z Z (fun _=>AB (AR rfl Fb Z Z Z)) ?_ | refine AE [1] [] Z Z (fun _=>AB (AP rfl Fb Z Z Z)) ?_ | refine AH [1] Z Z (fun _=>AB (AP rfl Fb Z Z Z)) ?_ | refine AE [1] [] Z Z (fun _=>AB (AN rfl Fb Z Z Z)) ?_ | refine AH [1] Z Z (fun _=>AB (AN rfl Fb Z Z Z)) ?_
 first | refine AE [6] [] Z Z (fun _=>AB (A0 Z Z Aa rfl)) ?_ | refine AH [6] Z Z (fun _=>AB (A0 Z Z Aa rfl)) ?_ | refine AE [6] [] Z Z (fun _=>AB (AX Z Z Z Aa rfl)) ?_ | refine AH [6] Z Z (fun _=>AB (AX Z Z Z Aa rfl)) ?_ | refine AE [6] [] Z Z (fun _=>AB (AZ Z Z (rfl) rfl Aa rfl)) ?_ | refine AH [6] Z Z (fun _=>AB (AZ Z Z (rfl) rfl Aa rfl)) ?_
 first | refine AE [1] [] Z Z (fun _=>AB (AO rfl Fa Z Z Z)) ?_ | refine AH [1] Z Z (fun _=>AB (AO rfl Fa Z Z Z)) ?_ | refine AE [1] [] Z Z (fun _=>AB (AQ rfl Fa Z Z Z)) ?_ | refine AH [1] Z Z (fun _=>AB (AQ rfl Fa Z Z Z)) ?_ | refine AE [1] [] Z Z (fun _=>AB (AR rfl Fa Z Z Z)) ?_ | refine AH [1] Z Z (fun _=>AB (AR rfl Fa Z Z Z)) ?_ | refine AE [1] [] Z Z (fun _=>AB (AP rfl Fa Z Z Z)) ?_ | refine AH [1] Z Z (fun _=>AB (AP rfl Fa Z Z Z)) ?_ | refine AE [1] [] Z Z (fun _=>AB (AN rfl Fa Z Z Z)) ?_ | refine AH [1] Z Z (fun _=>AB (AN rfl Fa Z Z Z)) ?_
 first | refine AE [8] [] Z Z (fun _=>AB (A0 Z Z Aa rfl)) ?_ | refine AH [8] Z Z (fun _=>AB (A0 Z Z Aa rfl)) ?_ | refine AE [8] [] Z Z (fun _=>AB (AX Z Z Z Aa rfl)) ?_ | refine AH [8] Z Z (fun _=>AB (AX Z Z Z Aa rfl)) ?_ | refine AE [8] [] Z Z (fun _=>AB (AZ Z Z (rfl) rfl Aa rfl)) ?_ | refine AH [8] Z Z (fun _=>AB (AZ Z Z (rfl) rfl Aa rfl)) ?_
 first | refine AE [1] [] Z Z (fun _=>AB (AO rfl F9 Z Z Z)) ?_ | refine AH [1] Z Z (fun _=>AB (AO rfl F9 Z Z Z)) ?_ | refine AE [1] [] Z Z (fun _=>AB (AQ rfl F9 Z Z Z)) ?_ | refine AH [1] Z Z (fun _=>AB (AQ rfl F9 Z Z Z)) ?_ | refine AE [1] [] Z Z (fun _=>AB (AR rfl F9 Z Z Z)) ?_ | refine AH [1] Z Z (fun _=>AB (AR rfl F9 Z Z Z)) ?_ | refine AE [1] [] Z Z (fun _=>AB (AP rfl F9 Z Z Z)) ?_ | refine AH [1] Z Z (fun _=>AB (AP rfl F9 Z Z Z)) ?_ | refine AE [1] [] Z Z (fun _=>AB (AN rfl F9 Z Z Z)) ?_ | refine AH [1] Z Z (fun _=>AB (AN rfl F9 Z Z Z)) ?_
 first | refine AE [10] [] Z Z (fun _=>AB (A0 Z Z Aa rfl)) ?_ | refine AH [10] Z Z (fun _=>AB (A0 Z Z Aa rfl)) ?_ | refine AE [10] [] Z Z (fun _=>AB (AX Z Z Z Aa rfl)) ?_ | refine AH [10] Z Z (fun _=>AB (AX Z Z Z Aa rfl)) ?_ | refine AE [10] [] Z Z (fun _=>AB (AZ Z Z (rfl) rfl Aa rfl)) ?_ | refine AH [10] Z Z (fun _=>AB (AZ Z Z (rfl) rfl Aa rfl)) ?_
 refine G7 [] [3] [(12,_)] Z Z (fun _=>G8 (Fg 3 CS Z Z Z Z Z Z Z Z)) (.inr ⟨12,_,rfl,rfl,rfl,rfl,rfl⟩) Z Z Z Z Z ?_
 first | refine AE [1] [] Z Z (fun _=>AB (AO rfl Cz Z Z Z)) ?_ | refine AH [1] Z Z (fun _=>AB (AO rfl Cz Z Z Z)) ?_ | refine AE [1] [] Z Z (fun _=>AB (AQ rfl Cz Z Z Z)) ?_ | refine AH [1] Z Z (fun _=>AB (AQ rfl Cz Z Z Z)) ?_ | refine AE [1] [] Z Z (fun _=>AB (AR rfl Cz Z Z Z)) ?_ | refine AH [1] Z Z (fun _=>AB (AR rfl Cz Z Z Z)) ?_ | refine AE [1] [] Z Z (fun _=>AB (AP rfl Cz Z Z Z)) ?_ | refine AH [1] Z Z (fun _=>AB (AP rfl Cz Z Z Z)) ?_ | refine AE [1] [] Z Z (fun _=>AB (AN rfl Cz Z Z Z)) ?_ | refine AH [1] Z Z (fun _=>AB (AN rfl Cz Z Z Z)) ?_
 first | refine AE [13] [] Z Z (fun _=>AB (A0 Z Z BD rfl)) ?_ | refine AH [13] Z Z (fun _=>AB (A0 Z Z BD rfl)) ?_ | refine AE [13] [] Z Z (fun _=>AB (AX Z Z Z BD rfl)) ?_ | refine AH [13] Z Z (fun _=>AB (AX Z Z Z BD rfl)) ?_ | refine AE [13] [] Z Z (fun _=>AB (AZ Z Z (rfl) rfl BD rfl)) ?_ | refine AH [13] Z Z (fun _=>AB (AZ Z Z (rfl) rfl BD rfl)) ?_
 first | refine G7 [12,14] [3] [(15,_)] Z Z (fun _=>G8 (IX (([]:List Int)) (i.af) Z Z Z Z Z Z Z Z CS (by simp only [List.length_nil];omega) Z Z Z Z)) (.inr ⟨15,_,rfl,rfl,rfl,rfl,rfl⟩) Z Z Z Z Z ?_ | refine G7 [12,14] [3] [(15,_)] Z Z (fun _=>G8 (Kp (([]:List Int)) (i.af) Z Z Z Z Z Z (fun _=>rfl) CS (by simp only [List.length_nil];omega) Z Z Z Z)) (.inr ⟨15,_,rfl,rfl,rfl,rfl,rfl⟩) Z Z Z Z Z ?_
 first | refine AE [7,9,11,15] [] Z Z (fun _=>AB (DC FI Wo Z Z Z)) ?_ | refine AH [7,9,11,15] Z Z (fun _=>AB (DC FI Wo Z Z Z)) ?_
 refine G7 [] [4] [(3,_)] Z Z (fun _=>G8 (DT 4 FI Z Z Z Z)) (.inr ⟨3,_,rfl,rfl,rfl,rfl,rfl⟩) Z Z Z Z Z (Gf 12 Z Z Z (BE 13 Z Z (G (CC Z Z Z Z Z Z Z Cq) (AI ⟨rfl,?_⟩))));refine Ge ?_;refine AG (AG (YT (ys:=i.af.map AF) 4 0 5 3 Z Z Z (by simp) (List.take_of_length_le (by simp)) Z Z Z Z Z Z (Cs 4 0 3 901 PD Z Z Z Z Z Z Z (AJ (AD Z Z (AI (Aw (EN (α:=List Ee) (fun acc=>⟨60,[(1,(.ptr 1 0 0)),(2,(.ptr 2 0 0)),(3,(.ptr 4 0 0)),(4,(.d (AF (acc.length:Int))))],[(901,[.rowD 125 4 (acc.map C7)]),(1,[.blk 72 [.d (AF i.id),.d (AF i.pr),.d (AF i.sq),.d (.sl none (i.po.map C7)),.d (.sl none (i.pa.map Gl)),.d (.sl none (i.af.map AF))]]),(2,[.blk 49 [.d (AF 0),.d (AF 0),.d (AF 0),II,II,II]]),(4,[.blk 49 [.d (AF i.id),.d (AF i.pr),.d (AF i.sq),.own 901 0 acc.length,II,.d (.sl none (i.af.map AF))]])]⟩) (fun acc=>acc=i.po.take acc.length∧acc.length≤i.po.length) (fun acc=>i.po.length - acc.length) ([]) (⟨by simp,Nat.zero_le _⟩) (BS hF [901,1,2,4] Z Z ⟨rfl,rfl,rfl,rfl,trivial⟩) ?_))))))));rintro acc ⟨hI,hk0⟩;refine AG (AG (AJ (AC Z Z ?_)))
 first | refine J (AO rfl JG Z Z Z) ?_ | refine J (AQ rfl JG Z Z Z) ?_ | refine J (AR rfl JG Z Z Z) ?_ | refine J (AP rfl JG Z Z Z) ?_ | refine J (AN rfl JG Z Z Z) ?_
 first | refine J (A0 Z Z Gm rfl) ?_ | refine J (AX Z Z Z Gm rfl) ?_ | refine J (AZ Z Z (rfl) rfl Gm rfl) ?_
 first | refine J (Co rfl Tryz.underlying69 rfl) ?_ | refine J (C1 Z Z Tryz.underlying69 rfl) ?_ | refine J (Cp rfl Tryz.underlying69 rfl) ?_ | refine J (Cn rfl Tryz.underlying69 rfl) ?_ | refine J (Ca rfl Tryz.underlying69 rfl) ?_ | refine J (Ck rfl Tryz.underlying69 rfl) ?_
 first | refine J (Cc Z Z Z) ?_ | refine J (Cb Z Z Z) ?_
 refine AI ?_
 first | refine BP rfl (fun h21=>?_) (fun h21=>?_) | refine BK rfl (fun h21=>?_) (fun h21=>?_)
 ·have hk1:acc.length<i.po.length:=EF h21;refine An (AG (Aw (Gs [[],[0],[],[2],[],[2,3,4],[2,3,4,5],[2,3,4,5,6],[],[8],[],[8,9,10],[8,9,10,11],[8,9,10,11,12],[2,3,4,5,6,7,8,9,10,11,12,13],[2,3,4,5,6,7,8,9,10,11,12,13,14],[0,1,2,3,4,5,6,7,8,9,10,11,12,13,14,15],[0,1,2,3,4,5,6,7,8,9,10,11,12,13,14,15,16],[0,1,2,3,4,5,6,7,8,9,10,11,12,13,14,15,16,17]] BF rfl (IK ?_))))
  first | refine AE [3] [] Z Z (fun _=>AB (AO rfl Df Z Z Z)) ?_ | refine AH [3] Z Z (fun _=>AB (AO rfl Df Z Z Z)) ?_ | refine AE [3] [] Z Z (fun _=>AB (AQ rfl Df Z Z Z)) ?_ | refine AH [3] Z Z (fun _=>AB (AQ rfl Df Z Z Z)) ?_ | refine AE [3] [] Z Z (fun _=>AB (AR rfl Df Z Z Z)) ?_ | refine AH [3] Z Z (fun _=>AB (AR rfl Df Z Z Z)) ?_ | refine AE [3] [] Z Z (fun _=>AB (AP rfl Df Z Z Z)) ?_ | refine AH [3] Z Z (fun _=>AB (AP rfl Df Z Z Z)) ?_ | refine AE [3] [] Z Z (fun _=>AB (AN rfl Df Z Z Z)) ?_ | refine AH [3] Z Z (fun _=>AB (AN rfl Df Z Z Z)) ?_
  first | refine AE [24] [] Z Z (fun _=>AB (A0 Z Z F8 rfl)) ?_ | refine AH [24] Z Z (fun _=>AB (A0 Z Z F8 rfl)) ?_ | refine AE [24] [] Z Z (fun _=>AB (AX Z Z Z F8 rfl)) ?_ | refine AH [24] Z Z (fun _=>AB (AX Z Z Z F8 rfl)) ?_ | refine AE [24] [] Z Z (fun _=>AB (AZ Z Z (rfl) rfl F8 rfl)) ?_ | refine AH [24] Z Z (fun _=>AB (AZ Z Z (rfl) rfl F8 rfl)) ?_
  first | refine AE [1] [] Z Z (fun _=>AB (AO rfl JG Z Z Z)) ?_ | refine AH [1] Z Z (fun _=>AB (AO rfl JG Z Z Z)) ?_ | refine AE [1] [] Z Z (fun _=>AB (AQ rfl JG Z Z Z)) ?_ | refine AH [1] Z Z (fun _=>AB (AQ rfl JG Z Z Z)) ?_ | refine AE [1] [] Z Z (fun _=>AB (AR rfl JG Z Z Z)) ?_ | refine AH [1] Z Z (fun _=>AB (AR rfl JG Z Z Z)) ?_ | refine AE [1] [] Z Z (fun _=>AB (AP rfl JG Z Z Z)) ?_ | refine AH [1] Z Z (fun _=>AB (AP rfl JG Z Z Z)) ?_ | refine AE [1] [] Z Z (fun _=>AB (AN rfl JG Z Z Z)) ?_ | refine AH [1] Z Z (fun _=>AB (AN rfl JG Z Z Z)) ?_
  first | refine AE [26] [] Z Z (fun _=>AB (A0 Z Z Gm rfl)) ?_ | refine AH [26] Z Z (fun _=>AB (A0 Z Z Gm rfl)) ?_ | refine AE [26] [] Z Z (fun _=>AB (AX Z Z Z Gm rfl)) ?_ | refine AH [26] Z Z (fun _=>AB (AX Z Z Z Gm rfl)) ?_ | refine AE [26] [] Z Z (fun _=>AB (AZ Z Z (rfl) rfl Gm rfl)) ?_ | refine AH [26] Z Z (fun _=>AB (AZ Z Z (rfl) rfl Gm rfl)) ?_
  first | refine AE [4] [] Z Z (fun _=>AB (Bb Z Z)) ?_ | refine AH [4] Z Z (fun _=>AB (Bb Z Z)) ?_
  first | refine AE [27,28] [] Z Z (fun _=>AB (Ch (acc.length) Z Z (rfl) (A3 hk1) Tryz.underlying69 rfl Ks rfl)) ?_ | refine AH [27,28] Z Z (fun _=>AB (Ch (acc.length) Z Z (rfl) (A3 hk1) Tryz.underlying69 rfl Ks rfl)) ?_ | refine AE [27,28] [] Z Z (fun _=>AB (Cj (acc.length) Z Z (rfl) (A3 hk1) rfl Tryz.underlying69 Ks rfl)) ?_ | refine AH [27,28] Z Z (fun _=>AB (Cj (acc.length) Z Z (rfl) (A3 hk1) rfl Tryz.underlying69 Ks rfl)) ?_
  first | refine AE [29] [] Z Z (fun _=>AB (AO rfl Dr Z Z Z)) ?_ | refine AH [29] Z Z (fun _=>AB (AO rfl Dr Z Z Z)) ?_ | refine AE [29] [] Z Z (fun _=>AB (AQ rfl Dr Z Z Z)) ?_ | refine AH [29] Z Z (fun _=>AB (AQ rfl Dr Z Z Z)) ?_ | refine AE [29] [] Z Z (fun _=>AB (AR rfl Dr Z Z Z)) ?_ | refine AH [29] Z Z (fun _=>AB (AR rfl Dr Z Z Z)) ?_ | refine AE [29] [] Z Z (fun _=>AB (AP rfl Dr Z Z Z)) ?_ | refine AH [29] Z Z (fun _=>AB (AP rfl Dr Z Z Z)) ?_ | refine AE [29] [] Z Z (fun _=>AB (AN rfl Dr Z Z Z)) ?_ | refine AH [29] Z Z (fun _=>AB (AN rfl Dr Z Z Z)) ?_
  first | refine AE [30] [] Z Z (fun _=>AB (At Z Z PF rfl)) ?_ | refine AH [30] Z Z (fun _=>AB (At Z Z PF rfl)) ?_ | refine AE [30] [] Z Z (fun _=>AB (Au Z Z PF Z Z Z)) ?_ | refine AH [30] Z Z (fun _=>AB (Au Z Z PF Z Z Z)) ?_ | refine AE [30] [] Z Z (fun _=>AB (Av Z Z (rfl) rfl PF rfl)) ?_ | refine AH [30] Z Z (fun _=>AB (Av Z Z (rfl) rfl PF rfl)) ?_
  first | refine AE [1] [] Z Z (fun _=>AB (AO rfl JG Z Z Z)) ?_ | refine AH [1] Z Z (fun _=>AB (AO rfl JG Z Z Z)) ?_ | refine AE [1] [] Z Z (fun _=>AB (AQ rfl JG Z Z Z)) ?_ | refine AH [1] Z Z (fun _=>AB (AQ rfl JG Z Z Z)) ?_ | refine AE [1] [] Z Z (fun _=>AB (AR rfl JG Z Z Z)) ?_ | refine AH [1] Z Z (fun _=>AB (AR rfl JG Z Z Z)) ?_ | refine AE [1] [] Z Z (fun _=>AB (AP rfl JG Z Z Z)) ?_ | refine AH [1] Z Z (fun _=>AB (AP rfl JG Z Z Z)) ?_ | refine AE [1] [] Z Z (fun _=>AB (AN rfl JG Z Z Z)) ?_ | refine AH [1] Z Z (fun _=>AB (AN rfl JG Z Z Z)) ?_
  first | refine AE [32] [] Z Z (fun _=>AB (A0 Z Z Gm rfl)) ?_ | refine AH [32] Z Z (fun _=>AB (A0 Z Z Gm rfl)) ?_ | refine AE [32] [] Z Z (fun _=>AB (AX Z Z Z Gm rfl)) ?_ | refine AH [32] Z Z (fun _=>AB (AX Z Z Z Gm rfl)) ?_ | refine AE [32] [] Z Z (fun _=>AB (AZ Z Z (rfl) rfl Gm rfl)) ?_ | refine AH [32] Z Z (fun _=>AB (AZ Z Z (rfl) rfl Gm rfl)) ?_
  first | refine AE [4] [] Z Z (fun _=>AB (Bb Z Z)) ?_ | refine AH [4] Z Z (fun _=>AB (Bb Z Z)) ?_
  first | refine AE [33,34] [] Z Z (fun _=>AB (Ch (acc.length) Z Z (rfl) (A3 hk1) Tryz.underlying69 rfl Ks rfl)) ?_ | refine AH [33,34] Z Z (fun _=>AB (Ch (acc.length) Z Z (rfl) (A3 hk1) Tryz.underlying69 rfl Ks rfl)) ?_ | refine AE [33,34] [] Z Z (fun _=>AB (Cj (acc.length) Z Z (rfl) (A3 hk1) rfl Tryz.underlying69 Ks rfl)) ?_ | refine AH [33,34] Z Z (fun _=>AB (Cj (acc.length) Z Z (rfl) (A3 hk1) rfl Tryz.underlying69 Ks rfl)) ?_
  first | refine AE [35] [] Z Z (fun _=>AB (AO rfl Dq Z Z Z)) ?_ | refine AH [35] Z Z (fun _=>AB (AO rfl Dq Z Z Z)) ?_ | refine AE [35] [] Z Z (fun _=>AB (AQ rfl Dq Z Z Z)) ?_ | refine AH [35] Z Z (fun _=>AB (AQ rfl Dq Z Z Z)) ?_ | refine AE [35] [] Z Z (fun _=>AB (AR rfl Dq Z Z Z)) ?_ | refine AH [35] Z Z (fun _=>AB (AR rfl Dq Z Z Z)) ?_ | refine AE [35] [] Z Z (fun _=>AB (AP rfl Dq Z Z Z)) ?_ | refine AH [35] Z Z (fun _=>AB (AP rfl Dq Z Z Z)) ?_ | refine AE [35] [] Z Z (fun _=>AB (AN rfl Dq Z Z Z)) ?_ | refine AH [35] Z Z (fun _=>AB (AN rfl Dq Z Z Z)) ?_
  first | refine AE [36] [] Z Z (fun _=>AB (A0 Z Z Be rfl)) ?_ | refine AH [36] Z Z (fun _=>AB (A0 Z Z Be rfl)) ?_ | refine AE [36] [] Z Z (fun _=>AB (AX Z Z Z Be rfl)) ?_ | refine AH [36] Z Z (fun _=>AB (AX Z Z Z Be rfl)) ?_ | refine AE [36] [] Z Z (fun _=>AB (AZ Z Z (rfl) rfl Be rfl)) ?_ | refine AH [36] Z Z (fun _=>AB (AZ Z Z (rfl) rfl Be rfl)) ?_
  first | refine AE [31,37] [] Z Z (fun _=>AB (DC JL OA Z Z Z)) ?_ | refine AH [31,37] Z Z (fun _=>AB (DC JL OA Z Z Z)) ?_
  refine G7 [38] [5] [(39,_)] Z Z (fun _=>G8 (Fg 5 PD Z Z Z Z Z Z Z Z)) (.inr ⟨39,_,rfl,rfl,rfl,rfl,rfl⟩) Z Z Z Z Z (Gf 16 Z Z Z (BE 17 Z Z ?_))
  first | refine G (IX (acc) ([i.po[acc.length]]) Z Z Z Z Z Z Z Z PD (by simp only [List.length_singleton];omega) Z Z Z Z) ?_ | refine G (Kp (acc) ([i.po[acc.length]]) Z Z Z Z Z Z (fun _=>rfl) PD (by simp only [List.length_singleton];omega) Z Z Z Z) ?_
  refine AI ⟨rfl,?_⟩;refine BE 18 Z Z ?_
  first | refine J (AO rfl Df Z Z Z) ?_ | refine J (AQ rfl Df Z Z Z) ?_ | refine J (AR rfl Df Z Z Z) ?_ | refine J (AP rfl Df Z Z Z) ?_ | refine J (AN rfl Df Z Z Z) ?_
  refine AI ⟨rfl,?_⟩;refine BE 19 Z Z (G (CC Z Z Z Z Z Z Z sz46) (AI ⟨rfl,?_⟩));refine Ge (AJ (AC Z Z (J (By Z Z (TL acc i.po[acc.length] (by omega)) rfl) (AD Z Z (AI ?_)))));exact ⟨acc++ [i.po[acc.length]],⟨L9 hI hk1,by rw [List.length_append];show acc.length+1≤_;omega⟩,by rw [List.length_append];show i.po.length - (acc.length+1)<i.po.length - acc.length;omega,BS hF [901,1,2,4] rfl (rfl) ⟨rfl,rfl,rfl,rfl,trivial⟩⟩
 ·refine Ct (AG (AG ?_));have hacc:=Oq hI (fun h=>h21 (by omega));refine YT (ys:=i.po.map C7) 4 0 3 901 Z Z Z (by simp) (by rw [hacc];exact List.take_of_length_le (by simp)) Z Z Z Z Z Z (Cs 4 0 4 902 QN Z Z Z Z Z Z Z (AJ (AD Z Z (AI (Aw (EN (α:=List NJ) (fun acc2=>⟨60,[(1,(.ptr 1 0 0)),(2,(.ptr 2 0 0)),(3,(.ptr 4 0 0)),(5,(.d (AF (acc2.length:Int))))],[(902,[.rowD 135 3 (acc2.map Gl)]),(1,[.blk 72 [.d (AF i.id),.d (AF i.pr),.d (AF i.sq),.d (.sl none (i.po.map C7)),.d (.sl none (i.pa.map Gl)),.d (.sl none (i.af.map AF))]]),(2,[.blk 49 [.d (AF 0),.d (AF 0),.d (AF 0),II,II,II]]),(4,[.blk 49 [.d (AF i.id),.d (AF i.pr),.d (AF i.sq),.d (.sl none (i.po.map C7)),.own 902 0 acc2.length,.d (.sl none (i.af.map AF))]])]⟩) (fun acc2=>acc2=i.pa.take acc2.length∧acc2.length≤i.pa.length) (fun acc2=>i.pa.length - acc2.length) ([]) (⟨by simp,Nat.zero_le _⟩) (BS hF [902,1,2,4] Z Z ⟨rfl,rfl,rfl,rfl,trivial⟩) ?_))))));rintro acc2 ⟨hJ,hk2⟩;refine AG (AG (AJ (AC Z Z ?_)))
  first | refine J (AO rfl Oh Z Z Z) ?_ | refine J (AQ rfl Oh Z Z Z) ?_ | refine J (AR rfl Oh Z Z Z) ?_ | refine J (AP rfl Oh Z Z Z) ?_ | refine J (AN rfl Oh Z Z Z) ?_
  first | refine J (A0 Z Z LZ rfl) ?_ | refine J (AX Z Z Z LZ rfl) ?_ | refine J (AZ Z Z (rfl) rfl LZ rfl) ?_
  first | refine J (Co rfl Tryz.underlying70 rfl) ?_ | refine J (C1 Z Z Tryz.underlying70 rfl) ?_ | refine J (Cp rfl Tryz.underlying70 rfl) ?_ | refine J (Cn rfl Tryz.underlying70 rfl) ?_ | refine J (Ca rfl Tryz.underlying70 rfl) ?_ | refine J (Ck rfl Tryz.underlying70 rfl) ?_
  first | refine J (Cc Z Z Z) ?_ | refine J (Cb Z Z Z) ?_
  refine AI ?_
  first | refine BP rfl (fun h46=>?_) (fun h46=>?_) | refine BK rfl (fun h46=>?_) (fun h46=>?_)
  ·have hk3:acc2.length<i.pa.length:=EF h46;refine An (AG (Aw (Gs [[],[0],[],[2],[],[2,3,4],[2,3,4,5],[2,3,4,5,6],[0,1,2,3,4,5,6,7],[0,1,2,3,4,5,6,7,8],[0,1,2,3,4,5,6,7,8,9]] BF rfl (IK ?_))))
   first | refine AE [3] [] Z Z (fun _=>AB (AO rfl FN Z Z Z)) ?_ | refine AH [3] Z Z (fun _=>AB (AO rfl FN Z Z Z)) ?_ | refine AE [3] [] Z Z (fun _=>AB (AQ rfl FN Z Z Z)) ?_ | refine AH [3] Z Z (fun _=>AB (AQ rfl FN Z Z Z)) ?_ | refine AE [3] [] Z Z (fun _=>AB (AR rfl FN Z Z Z)) ?_ | refine AH [3] Z Z (fun _=>AB (AR rfl FN Z Z Z)) ?_ | refine AE [3] [] Z Z (fun _=>AB (AP rfl FN Z Z Z)) ?_ | refine AH [3] Z Z (fun _=>AB (AP rfl FN Z Z Z)) ?_ | refine AE [3] [] Z Z (fun _=>AB (AN rfl FN Z Z Z)) ?_ | refine AH [3] Z Z (fun _=>AB (AN rfl FN Z Z Z)) ?_
   first | refine AE [49] [] Z Z (fun _=>AB (A0 Z Z Gn rfl)) ?_ | refine AH [49] Z Z (fun _=>AB (A0 Z Z Gn rfl)) ?_ | refine AE [49] [] Z Z (fun _=>AB (AX Z Z Z Gn rfl)) ?_ | refine AH [49] Z Z (fun _=>AB (AX Z Z Z Gn rfl)) ?_ | refine AE [49] [] Z Z (fun _=>AB (AZ Z Z (rfl) rfl Gn rfl)) ?_ | refine AH [49] Z Z (fun _=>AB (AZ Z Z (rfl) rfl Gn rfl)) ?_
   first | refine AE [1] [] Z Z (fun _=>AB (AO rfl Oh Z Z Z)) ?_ | refine AH [1] Z Z (fun _=>AB (AO rfl Oh Z Z Z)) ?_ | refine AE [1] [] Z Z (fun _=>AB (AQ rfl Oh Z Z Z)) ?_ | refine AH [1] Z Z (fun _=>AB (AQ rfl Oh Z Z Z)) ?_ | refine AE [1] [] Z Z (fun _=>AB (AR rfl Oh Z Z Z)) ?_ | refine AH [1] Z Z (fun _=>AB (AR rfl Oh Z Z Z)) ?_ | refine AE [1] [] Z Z (fun _=>AB (AP rfl Oh Z Z Z)) ?_ | refine AH [1] Z Z (fun _=>AB (AP rfl Oh Z Z Z)) ?_ | refine AE [1] [] Z Z (fun _=>AB (AN rfl Oh Z Z Z)) ?_ | refine AH [1] Z Z (fun _=>AB (AN rfl Oh Z Z Z)) ?_
   first | refine AE [51] [] Z Z (fun _=>AB (A0 Z Z LZ rfl)) ?_ | refine AH [51] Z Z (fun _=>AB (A0 Z Z LZ rfl)) ?_ | refine AE [51] [] Z Z (fun _=>AB (AX Z Z Z LZ rfl)) ?_ | refine AH [51] Z Z (fun _=>AB (AX Z Z Z LZ rfl)) ?_ | refine AE [51] [] Z Z (fun _=>AB (AZ Z Z (rfl) rfl LZ rfl)) ?_ | refine AH [51] Z Z (fun _=>AB (AZ Z Z (rfl) rfl LZ rfl)) ?_
   first | refine AE [5] [] Z Z (fun _=>AB (Bb Z Z)) ?_ | refine AH [5] Z Z (fun _=>AB (Bb Z Z)) ?_
   first | refine AE [52,53] [] Z Z (fun _=>AB (Ch (acc2.length) Z Z (rfl) (A3 hk3) Tryz.underlying70 rfl TS rfl)) ?_ | refine AH [52,53] Z Z (fun _=>AB (Ch (acc2.length) Z Z (rfl) (A3 hk3) Tryz.underlying70 rfl TS rfl)) ?_ | refine AE [52,53] [] Z Z (fun _=>AB (Cj (acc2.length) Z Z (rfl) (A3 hk3) rfl Tryz.underlying70 TS rfl)) ?_ | refine AH [52,53] Z Z (fun _=>AB (Cj (acc2.length) Z Z (rfl) (A3 hk3) rfl Tryz.underlying70 TS rfl)) ?_
   first | refine AE [54] [] Z Z (fun _=>AB (At Z Z Np rfl)) ?_ | refine AH [54] Z Z (fun _=>AB (At Z Z Np rfl)) ?_ | refine AE [54] [] Z Z (fun _=>AB (Au Z Z Np Z Z Z)) ?_ | refine AH [54] Z Z (fun _=>AB (Au Z Z Np Z Z Z)) ?_ | refine AE [54] [] Z Z (fun _=>AB (Av Z Z (rfl) rfl Np rfl)) ?_ | refine AH [54] Z Z (fun _=>AB (Av Z Z (rfl) rfl Np rfl)) ?_
   refine G7 [55] [6] [(56,_)] Z Z (fun _=>G8 (Fg 6 QN Z Z Z Z Z Z Z Z)) (.inr ⟨56,_,rfl,rfl,rfl,rfl,rfl⟩) Z Z Z Z Z (Gf 8 Z Z Z (BE 9 Z Z ?_))
   first | refine G (IX (acc2) ([i.pa[acc2.length]]) Z Z Z Z Z Z Z Z QN (by simp only [List.length_singleton];omega) Z Z Z Z) ?_ | refine G (Kp (acc2) ([i.pa[acc2.length]]) Z Z Z Z Z Z (fun _=>rfl) QN (by simp only [List.length_singleton];omega) Z Z Z Z) ?_
   refine AI ⟨rfl,?_⟩;refine BE 10 Z Z ?_
   first | refine J (AO rfl FN Z Z Z) ?_ | refine J (AQ rfl FN Z Z Z) ?_ | refine J (AR rfl FN Z Z Z) ?_ | refine J (AP rfl FN Z Z Z) ?_ | refine J (AN rfl FN Z Z Z) ?_
   refine AI ⟨rfl,?_⟩;refine BE 11 Z Z (G (CC Z Z Z Z Z Z Z sz47) (AI ⟨rfl,?_⟩));refine Ge (AJ (AC Z Z (J (By Z Z (TL acc2 i.pa[acc2.length] (by omega)) rfl) (AD Z Z (AI ?_)))));exact ⟨acc2++ [i.pa[acc2.length]],⟨L9 hJ hk3,by rw [List.length_append];show acc2.length+1≤_;omega⟩,by rw [List.length_append];show i.pa.length - (acc2.length+1)<i.pa.length - acc2.length;omega,BS hF [902,1,2,4] rfl (rfl) ⟨rfl,rfl,rfl,rfl,trivial⟩⟩
  ·refine Ct (AG ?_);have hacc2:=Oq hJ (fun h=>h46 (by omega));refine YT (ys:=i.pa.map Gl) 4 0 4 902 Z Z Z (by simp) (by rw [hacc2];exact List.take_of_length_le (by simp)) Z Z Z Z Z Z (AJ ?_)
   first | refine J (At Z Z Ag rfl) ?_ | refine J (Au Z Z Ag Z Z Z) ?_ | refine J (Av Z Z (rfl) rfl Ag rfl) ?_
   refine G (CC Z Z Z Z Z Z Z Cq) (AI (Af ?_));exact ⟨_,[],[],Ae rfl,rfl,rfl,rfl,rfl⟩
def pd (r:A5) (p:Ee):Int:=if p.acc=r.acc then p.d else 0
theorem U8 {α:Type} {l:List α} {f:α ->Int} {B:Int} (h:∀x∈l,-B≤f x∧f x≤B) (n:Nat) (hn:l.length≤n) (hB:0≤B): -(n*B)≤(l.map f).sum∧(l.map f).sum≤n*B:=by
 induction l generalizing n with
 | nil=>have:=Int.mul_nonneg (Int.natCast_nonneg n) hB;simp only [List.map_nil,List.sum_nil];omega
 | cons x l ih=>
  obtain ⟨m,rfl⟩:∃m,n=m+1:=⟨n - 1,by simp at hn;omega⟩
  have h1:=ih (fun y hy=>h y (by simp [hy])) m (by simpa using hn);have h2:=h x (by simp);have e:((m+1:Nat):Int)*B=m*B+B:=by rw [Int.natCast_succ,Int.add_mul,Int.one_mul]
  rw [e,List.map_cons,List.sum_cons];omega
deriving instance DecidableEq for Ee
deriving instance DecidableEq for NJ
deriving instance DecidableEq for AU
deriving instance DecidableEq for Roo
theorem Ee.eq_iff {x y:Ee}:x=y↔x.acc=y.acc∧x.d=y.d:=by cases x;cases y;simp
theorem NJ.eq_iff {x y:NJ}:x=y↔x.f=y.f∧x.t=y.t∧x.n=y.n:=by cases x;cases y;simp
theorem Roo.eq_iff {x y:Roo}:x=y↔x.r=y.r∧x.n=y.n:=by cases x;cases y;simp
theorem AU.eq_iff {x y:AU}:x=y↔x.id=y.id∧x.pr=y.pr∧x.sq=y.sq∧x.po=y.po∧x.pa=y.pa∧x.af=y.af:=by cases x;cases y;simp
def Uq (x:Roo):List Value:=[.int .i64 x.r.k,IF x.r.acc.o,.int .i64 x.r.acc.k,IF x.r.acc.a,IF x.r.f,IF x.r.t,.int .i64 x.n]
abbrev rooT:List TypeDesc:=[.int .i64,.string,.int .i64,.string,.string,.string,.int .i64]
theorem roo_eqC (a b:Roo):BX (Uq a) (Uq b)=decide (a=b):=by
 simp only [Uq,BX,It,Is,Roo.eq_iff,A5.eq_iff,Ok.eq_iff,Bool.and_true,Bool.decide_and,Bool.and_assoc]
theorem Nt (a:Roo):BJ rooT (Uq a):=Rn rfl (Rn trivial (Rn rfl (Rn trivial (Rn trivial (Rn trivial (Rn rfl K0))))))
theorem Me {α:Type} {p:α ->Bool} {l:List α} {k:Nat} (hk:k<l.length):(l.take (k+1)).filter p=(l.take k).filter p++(if p l[k] then [l[k]] else []):=by
 rw [List.take_succ_eq_append_getElem hk,List.filter_append]
 congr 1
 rw [List.filter_cons,List.filter_nil]
abbrev B5 (b:Bool):D:= .raw (.bool b)
def Aj {α:Type} (l:List α):List (α×Bool):=l.map fun a=>(a,true)
theorem Dx {α:Type} [DecidableEq α] (l:List α) (a:α):Ai (Aj l) a false=decide (a∈l):=by
 induction l with
 | nil=>rfl
 | cons b l ih=>
  simp only [Aj,List.map_cons,Ai]
  by_cases h:a=b
  ·rw [if_pos h];simp [h]
  ·rw [if_neg h];simp only [Aj] at ih;rw [ih];simp [h]
theorem HC {α:Type} [DecidableEq α] {l:List α} {a:α} (h:a∉l):BG (Aj l) a true=Aj (l++ [a]):=by
 induction l with
 | nil=>rfl
 | cons b l ih=>
  simp only [List.mem_cons,not_or] at h;simp only [Aj,List.map_cons,List.cons_append,BG];rw [if_neg h.1];have:=ih h.2;simp only [Aj] at this;rw [this]
def DH:Roo:=⟨⟨0,Rb,[],[]⟩,0⟩
def NT (l:List Roo) (k:Nat):Int:=if B7 (l.getD k DH).r≠0 then B7 (l.getD k DH).r else if ¬(-4*Mx≤(l.getD k DH).n∧(l.getD k DH).n≤4*Mx) then 12 else if (l.getD k DH).r∈(l.take k).map Roo.r then 7 else 0
def EH (l:List Roo):Int:=Bi ((List.range l.length).map (NT l))
theorem Bh {α:Type} {l:List α} {k:Nat} (d:α) (h:k<l.length):l.getD k d=l[k]:=by rw [List.getD_eq_getElem?_getD,List.getElem?_eq_getElem h];rfl
theorem Cd {α β:Type} {l:List α} {f:α ->β} {k:Nat} (hk:k<l.length):(l.take (k+1)).map f=(l.take k).map f++ [f l[k]]:=by rw [List.take_succ_eq_append_getElem hk,List.map_append];rfl
theorem rooms_p (p:Prb) (hl:p.ro.length≤100000):AT Tryz.prog 137 [.d (CT p)] (AF (EH p.ro)):=by
 refine B6 Tryz.func137 Z Z Tryz.ntmps137 Z Z Z fun F hF=>(AG (AJ (G (CV 1 Z Z Z Z Z Z Z) (AD Z Z ?_))));refine AI (AG (AJ (G (YX 2 Z Z Z Z) (AD Z Z (AI (AG (AG (AJ ?_))))))))
 first | refine J (AO rfl Hf Z Z Z) ?_ | refine J (AQ rfl Hf Z Z Z) ?_ | refine J (AR rfl Hf Z Z Z) ?_ | refine J (AP rfl Hf Z Z Z) ?_ | refine J (AN rfl Hf Z Z Z) ?_
 first | refine J (A0 Z Z Gp rfl) ?_ | refine J (AX Z Z Z Gp rfl) ?_ | refine J (AZ Z Z (rfl) rfl Gp rfl) ?_
 first | refine J (Co rfl Tryz.underlying28 rfl) ?_ | refine J (C1 Z Z Tryz.underlying28 rfl) ?_ | refine J (Cp rfl Tryz.underlying28 rfl) ?_ | refine J (Cn rfl Tryz.underlying28 rfl) ?_ | refine J (Ca rfl Tryz.underlying28 rfl) ?_ | refine J (Ck rfl Tryz.underlying28 rfl) ?_
 refine AC Z Z (AI (Aw (EN (α:=Nat) (fun k=>⟨35,[(3,(.map 2 0)),(9,(.d (.sl none (p.ro.map F6)))),(10,(.d (AF (p.ro.length:Int)))),(11,(.d (AF (k:Int))))],[(2,[CD E1 B5 (Aj ((p.ro.take k).map Roo.r))])]⟩) (fun k=>k≤p.ro.length∧EH p.ro=Bi (((List.range p.ro.length).drop k).map (NT p.ro))) (fun k=>p.ro.length - k) (0) (⟨Nat.zero_le _,rfl⟩) (BS hF [2] Z Z ⟨rfl,rfl,rfl,rfl,trivial⟩) ?_)));rintro k ⟨hk0,hk⟩;refine AG (AJ ?_)
 first | refine J (Cc Z Z Z) ?_ | refine J (Cb Z Z Z) ?_
 refine AI (AG ?_)
 first | refine BP rfl (fun h12=>?_) (fun h12=>?_) | refine BK rfl (fun h12=>?_) (fun h12=>?_)
 ·have hk1:k<p.ro.length:=EF h12;refine An (AG (Aw (AG (AJ ?_))));have hE:=FU hk1 hk;have hgd:=Bh DH hk1
  first | refine J (Ch (k) Z Z (rfl) (A3 hk1) Tryz.underlying28 rfl Ot rfl) ?_ | refine J (Cj (k) Z Z (rfl) (A3 hk1) rfl Tryz.underlying28 Ot rfl) ?_
  first | refine J (At Z Z PE rfl) ?_ | refine J (Au Z Z PE Z Z Z) ?_ | refine J (Av Z Z (rfl) rfl PE rfl) ?_
  refine G (DT 3 Ol Z Z Z Z) (G (CC Z Z Z Z Z Z Z Ot) (AI (AG (AG (AJ ?_)))))
  first | refine J (AO rfl Dg Z Z Z) ?_ | refine J (AQ rfl Dg Z Z Z) ?_ | refine J (AR rfl Dg Z Z Z) ?_ | refine J (AP rfl Dg Z Z Z) ?_ | refine J (AN rfl Dg Z Z Z) ?_
  first | refine J (At Z Z Ah rfl) ?_ | refine J (Au Z Z Ah Z Z Z) ?_ | refine J (Av Z Z (rfl) rfl Ah rfl) ?_
  refine J (BO (TM p.ro[k].r) Z Z) (AD Z Z (AI (AG (AJ (AC Z Z ?_)))))
  first | refine J (Ec Z Z Z) ?_ | refine J (Eb Z Z Z) ?_ | refine J (EV Z Z Z) ?_ | refine J (E8 Tryz.underlying34 Z Z Z) ?_ | refine J (Ea Tryz.underlying34 Z Z Z) ?_ | refine J (st_neqN Tryz.underlying34 Z Z) ?_ | refine J (E9 Tryz.underlying34 Z Z Z) ?_ | refine J (st_neqFN Tryz.underlying34 Z Z) ?_
  refine AI ?_
  first | refine BP rfl (fun h19=>?_) (fun h19=>?_) | refine BK rfl (fun h19=>?_) (fun h19=>?_)
  ·refine AG (AJ (AC Z Z (AD Z Z (AI (Af ?_)))));exact ⟨_,[],[],Ae rfl,rfl,rfl,Ak (hE.2 _ (by unfold NT;rw [hgd,if_pos h19]) h19),rfl⟩
  ·refine An (AG (Aw (AG (AJ ?_))))
   first | refine J (AO rfl Oi Z Z Z) ?_ | refine J (AQ rfl Oi Z Z Z) ?_ | refine J (AR rfl Oi Z Z Z) ?_ | refine J (AP rfl Oi Z Z Z) ?_ | refine J (AN rfl Oi Z Z Z) ?_
   first | refine J (A0 Z Z Be rfl) ?_ | refine J (AX Z Z Z Be rfl) ?_ | refine J (AZ Z Z (rfl) rfl Be rfl) ?_
   refine J (BO (GR _ _ _) Z Z) ?_
   first | refine J (G9 Z Z) ?_ | refine J (GJ Z Z) ?_
   refine AD Z Z (AI ?_)
   first | refine BP rfl (fun h21=>?_) (fun h21=>?_) | refine BK rfl (fun h21=>?_) (fun h21=>?_)
   ·refine AG (AJ (AD Z Z (AI (Af ?_))));exact ⟨_,[],[],Ae rfl,rfl,rfl,Ak (hE.2 12 (by unfold NT;rw [hgd,if_neg h19,if_pos (by simp only [Mx];omega)]) (by decide)),rfl⟩
   ·refine AG (AJ (AC Z Z ?_))
    first | refine J (AO rfl Dg Z Z Z) ?_ | refine J (AQ rfl Dg Z Z Z) ?_ | refine J (AR rfl Dg Z Z Z) ?_ | refine J (AP rfl Dg Z Z Z) ?_ | refine J (AN rfl Dg Z Z Z) ?_
    first | refine J (At Z Z Ah rfl) ?_ | refine J (Au Z Z Ah Z Z Z) ?_ | refine J (Av Z Z (rfl) rfl Ah rfl) ?_
    refine J (LT (Aj ((p.ro.take k).map Roo.r)) (p.ro[k].r) (false) _ Z Z Z XU DQ za4 Z Z) ?_;rw [Dx];refine AD Z Z (AI ?_)
    first | refine BP rfl (fun h26=>?_) (fun h26=>?_) | refine BK rfl (fun h26=>?_) (fun h26=>?_)
    ·refine AG (AJ (AD Z Z (AI (Af ?_))));exact ⟨_,[],[],Ae rfl,rfl,rfl,Ak (hE.2 7 (by unfold NT;rw [hgd,if_neg h19,if_neg (by simp only [Mx];omega),if_pos h26]) (by decide)),rfl⟩
    ·have hnot:p.ro[k].r∉(p.ro.take k).map Roo.r:=h26;refine An (AJ (AC Z Z ?_))
     first | refine J (AO rfl Dg Z Z Z) ?_ | refine J (AQ rfl Dg Z Z Z) ?_ | refine J (AR rfl Dg Z Z Z) ?_ | refine J (AP rfl Dg Z Z Z) ?_ | refine J (AN rfl Dg Z Z Z) ?_
     first | refine J (At Z Z Ah rfl) ?_ | refine J (Au Z Z Ah Z Z Z) ?_ | refine J (Av Z Z (rfl) rfl Ah rfl) ?_
     first | refine G (FR (Aj ((p.ro.take k).map Roo.r)) (p.ro[k].r) (true) Z Z Z XU DQ Z Z) ?_ | refine G (Dv (Aj ((p.ro.take k).map Roo.r)) (p.ro[k].r) (true) Z Z Z XU DQ Z Z) ?_
     refine AI (AJ (J (By Z Z (Ad (k+1) (by omega)) rfl) (AC Z Z (AI ?_))));exact ⟨k+1,⟨by show k+1≤_;omega,hE.1 (by unfold NT;rw [hgd,if_neg h19,if_neg (by simp only [Mx];omega),if_neg hnot])⟩,by show p.ro.length - (k+1)<p.ro.length - k;omega,BS hF [2] rfl (by rw [Cd hk1,←HC hnot];rfl) ⟨rfl,rfl,rfl,rfl,trivial⟩⟩
 ·refine Ct (AG (AJ (AD Z Z (AI (Af ?_)))));exact ⟨_,[],[],Ae rfl,rfl,rfl,Ak (by rw [hk,List.drop_of_length_le (by have h:=h12;simp only [List.length_range];omega)];rfl),rfl⟩
theorem IQ {a b:Bool} (h:a=b):AV.d (.raw (.bool a))= .d (.raw (.bool b)):=by rw [h]
theorem UE {α:Type} {p:α ->Bool}:∀{l:List α} {k:Nat} (hk:k<l.length),(∀x∈l.take k,p x=false) ->p l[k]=true ->l.findIdx? p=some k
 | a::l,0,_,_,h=>by simp at h;simp [List.findIdx?_cons,h]
 | a::l,k+1,hk,h0,h=>by
  have h1:p a=false:=h0 a (by simp);have:=UE (l:=l) (k:=k) (by simpa using hk) (fun x hx=>h0 x (by simp [hx])) (by simpa using h)
  simp [List.findIdx?_cons,h1,this]
theorem fidx_no {α:Type} {p:α ->Bool} {l:List α} (h:∀x∈l,p x=false):l.findIdx? p=none:=by
 rw [List.findIdx?_eq_none_iff];exact h
def ixF (p:Int ->Bool) (l:List Int):Int:=match l.findIdx? p with
 | some k=>k
 | none=> -1
theorem ixF_nn {p:Int ->Bool} {l:List Int}:0≤ixF p l↔l.any p=true:=by
 unfold ixF
 cases h:l.findIdx? p with
 | none=>
  rw [List.findIdx?_eq_none_iff] at h;simp only [List.any_eq_true]
  constructor
  ·intro h';omega
  ·rintro ⟨x,hx,hp⟩;rw [h x hx] at hp;cases hp
 | some k=>
  have:=List.findIdx?_isSome (xs:=l) (p:=p);rw [h] at this;simp only [Option.isSome_some] at this
  simp [←this]
abbrev HM (S:List Int):Hp:=[(910,[.blk 173 [.map 911 0]]),(911,[CD AF B5 (Aj S)])]
def Jd (S:List Int) (x:Int):Bool:=!decide (x∈S)
theorem chk1_c (S:List Int) (x:Int):A6 Tryz.prog 138 [.d (AF x),.ptr 910 0 0] (HM S) fun r H'=>r= .d (B5 (Jd S x))∧H'=HM S:=by
 refine B6 Tryz.func138 Z Z Tryz.ntmps138 Z Z Z fun F hF=>(AG (AJ (AD Z Z (AI (AG (AJ ?_))))))
 first | refine J (A0 Z Z J9 rfl) ?_ | refine J (AX Z Z Z J9 rfl) ?_ | refine J (AZ Z Z (rfl) rfl J9 rfl) ?_
 refine AC Z Z (J (LT (Aj S) (x) (false) _ Z Z Z MU KI za4 Z Z) ?_);rw [Dx]
 first | refine J (G9 Z Z) ?_ | refine J (GJ Z Z) ?_
 refine AD Z Z (AI (Af ?_));exact ⟨_,[910,911],_,Ae rfl,rfl,rfl,by first | exact IQ (by unfold Jd;simp) | rfl,rfl⟩
theorem Xh (S l:List Int) (hl:l.length≤100000000):A6 Tryz.prog 95 [.d (.sl none (l.map AF)),.fn 138 [.ptr 910 0 0]] (HM S) fun r H'=>r= .d (AF (ixF (Jd S) l))∧H'=HM S:=by
 refine B6 Tryz.func95 Z Z Tryz.ntmps95 Z Z Z fun F hF=>(AG (AJ (AD Z Z (AI (AG (AG (AJ (AC Z Z ?_))))))))
 first | refine J (Co rfl Tryz.underlying33 rfl) ?_ | refine J (C1 Z Z Tryz.underlying33 rfl) ?_ | refine J (Cp rfl Tryz.underlying33 rfl) ?_ | refine J (Cn rfl Tryz.underlying33 rfl) ?_ | refine J (Ca rfl Tryz.underlying33 rfl) ?_ | refine J (Ck rfl Tryz.underlying33 rfl) ?_
 refine AC Z Z (AI (Aw (EN (α:=Nat) (fun k=>⟨19,[(0,.d (.sl none (l.map AF))),(1,.fn 138 [.ptr 910 0 0]),(7,(.d (AF (l.length:Int)))),(8,(.d (AF (k:Int))))],HM S⟩) (fun k=>k≤l.length∧∀x∈l.take k,Jd S x=false) (fun k=>l.length - k) (0) (⟨Nat.zero_le _,by simp⟩) (BS hF [910,911] Z Z ⟨rfl,rfl,rfl,rfl,trivial⟩) ?_)));rintro k ⟨hk0,hk⟩;refine AG (AJ ?_)
 first | refine J (Cc Z Z Z) ?_ | refine J (Cb Z Z Z) ?_
 refine AI (AG ?_)
 first | refine BP rfl (fun h9=>?_) (fun h9=>?_) | refine BK rfl (fun h9=>?_) (fun h9=>?_)
 ·have hk1:k<l.length:=EF h9;refine An (AG (Aw (AG ?_)));refine AJ (AC Z Z (AD Z Z (AI (AG (AJ (AC Z Z (AC Z Z (AC Z Z ?_))))))))
  first | refine J (Ch (k) Z Z (rfl) (A3 hk1) Tryz.underlying33 rfl Et rfl) ?_ | refine J (Cj (k) Z Z (rfl) (A3 hk1) rfl Tryz.underlying33 Et rfl) ?_
  first | refine J (A0 Z Z Aa rfl) ?_ | refine J (AX Z Z Z Aa rfl) ?_ | refine J (AZ Z Z (rfl) rfl Aa rfl) ?_
  refine G (KN (chk1_c S l[k]) rfl [910,911] ⟨rfl,rfl,trivial⟩ Z Z Z Z Z Z Z Z Z) (AI ?_)
  first | refine BP rfl (fun h16=>?_) (fun h16=>?_) | refine BK rfl (fun h16=>?_) (fun h16=>?_)
  ·refine AG (AJ (AC Z Z (AD Z Z (AI (Af ?_)))));exact ⟨_,[910,911],_,Ae rfl,rfl,rfl,Ak (by unfold ixF;rw [UE hk1 hk (by simpa using h16)]),rfl⟩
  ·refine An (AJ (J (By Z Z (Ad (k+1) (by omega)) rfl) (AC Z Z (AI ?_))));exact ⟨k+1,⟨by show k+1≤_;omega,by rw [List.take_succ_eq_append_getElem hk1];intro x hx;rcases List.mem_append.1 hx with hx | hx;exact hk x hx;rw [List.mem_singleton.1 hx];simpa using h16⟩,by show l.length - (k+1)<l.length - k;omega,BS hF [910,911] rfl (rfl) ⟨rfl,rfl,rfl,rfl,trivial⟩⟩
 ·refine Ct (AG (AJ (AD Z Z (AI (Af ?_)))));exact ⟨_,[910,911],_,Ae rfl,rfl,rfl,Ak (by unfold ixF;rw [fidx_no (fun x hx=>hk x (by rw [List.take_of_length_le (by have h:=h9;omega)];exact hx))]),rfl⟩
theorem RY (S l:List Int) (hl:l.length≤100000000):A6 Tryz.prog 84 [.d (.sl none (l.map AF)),.fn 138 [.ptr 910 0 0]] (HM S) fun r H'=>r= .d (B5 (l.any (Jd S)))∧H'=HM S:=by
 refine B6 Tryz.func84 Z Z Tryz.ntmps84 Z Z Z fun F hF=>(AG (AJ (AD Z Z (AI ?_))));refine AG (AJ (AC Z Z (AC Z Z (G (IL (Xh S l hl) rfl [910,911] ⟨rfl,rfl,trivial⟩ Z Z Z Z Z Z Z Z Z) (J (KM Z Z Z) (AD Z Z (AI (Af ?_))))))));exact ⟨_,[910,911],_,Ae rfl,rfl,rfl,IQ (by rw [Bool.eq_iff_iff,decide_eq_true_eq];exact ixF_nn),rfl⟩
def itm0:AU:=⟨0,0,0,[],[],[]⟩
def P3 (l:List AU) (k:Nat):Int:=if B9 (l.getD k itm0)≠0 then B9 (l.getD k itm0) else if (l.getD k itm0).id∈(l.take k).map AU.id∨(l.getD k itm0).sq∈(l.take k).map AU.sq then 7 else 0
def GZ (l:List AU):Int:=Bi ((List.range l.length).map (P3 l))
def Sp (S:List Int) (i:AU):Int:=if i.af.any (Jd S)=true then 9 else 0
def Pj (l:List AU):Int:=Bi (l.map (Sp (l.map AU.id)))
def Ab (p:Prb):Int:=if 4096<p.it.length∨16384<p.ro.length then 8 else Bi [EH p.ro,GZ p.it,Pj p.it]
theorem prbE_r {p:Prb} (h:¬(4096<p.it.length∨16384<p.ro.length)) (h2:EH p.ro≠0):EH p.ro=Ab p:=by unfold Ab;rw [if_neg h];simp only [Bi];rw [if_neg h2]
theorem SY {p:Prb} (h:¬(4096<p.it.length∨16384<p.ro.length)) (h1:EH p.ro=0) {e:Int} (h2:e=GZ p.it) (h3:e≠0):e=Ab p:=by unfold Ab;rw [if_neg h];simp only [Bi];rw [if_pos h1,if_neg (by rw [←h2];exact h3),h2]
theorem Wk {p:Prb} (h:¬(4096<p.it.length∨16384<p.ro.length)) (h1:EH p.ro=0) (h2:GZ p.it=0) {e:Int} (h3:e=Pj p.it):e=Ab p:=by unfold Ab;rw [if_neg h];simp only [Bi];rw [if_pos h1,if_pos h2,h3];split<;>simp_all
def Cu (p:Prb):Prop:=p.ro.length≤100000∧p.it.length≤100000∧∀i∈p.it,i.po.length≤100000∧i.pa.length≤100000∧i.af.length≤100000
theorem HH (p:Prb) (hb:Cu p):AT Tryz.prog 76 [.d (CT p)] (AF (Ab p)):=by
 obtain ⟨g1,g2,g3⟩:=hb;refine B6 Tryz.func76 Z Z Tryz.ntmps76 Z Z Z fun F hF=>(AG (AJ (G (CV 1 Z Z Z Z Z Z Z) (AD Z Z (AI (AG (AG (AJ ?_))))))))
 first | refine J (AO rfl DK Z Z Z) ?_ | refine J (AQ rfl DK Z Z Z) ?_ | refine J (AR rfl DK Z Z Z) ?_ | refine J (AP rfl DK Z Z Z) ?_ | refine J (AN rfl DK Z Z Z) ?_
 first | refine J (A0 Z Z CU rfl) ?_ | refine J (AX Z Z Z CU rfl) ?_ | refine J (AZ Z Z (rfl) rfl CU rfl) ?_
 first | refine J (Co rfl Tryz.underlying29 rfl) ?_ | refine J (C1 Z Z Tryz.underlying29 rfl) ?_ | refine J (Cp rfl Tryz.underlying29 rfl) ?_ | refine J (Cn rfl Tryz.underlying29 rfl) ?_ | refine J (Ca rfl Tryz.underlying29 rfl) ?_ | refine J (Ck rfl Tryz.underlying29 rfl) ?_
 first | refine J (DZ Z Z Z) ?_ | refine J (C5 Z Z Z) ?_
 refine AC Z Z ?_
 first | refine JH 15 rfl (fun h15=>?_) (fun h15=>?_) | refine IW 15 rfl (fun h15=>?_) (fun h15=>?_)
 ·refine Ac Z Z Z Z (Ac Z Z Z Z (Ac Z Z Z Z ?_));refine Ac Z Z Z Z (J (DX Z Z Z Z) (AI (EL Z Z (AG (AJ (AD Z Z (AI (Af ?_))))))));exact ⟨_,[],[],Ae rfl,rfl,rfl,Ak (by unfold Ab;rw [if_pos (by omega)]),rfl⟩
 ·refine A9 Z Z Z ?_
  first | refine J (AO rfl Hf Z Z Z) ?_ | refine J (AQ rfl Hf Z Z Z) ?_ | refine J (AR rfl Hf Z Z Z) ?_ | refine J (AP rfl Hf Z Z Z) ?_ | refine J (AN rfl Hf Z Z Z) ?_
  refine A9 Z Z Z ?_
  first | refine J (A0 Z Z Gp rfl) ?_ | refine J (AX Z Z Z Gp rfl) ?_ | refine J (AZ Z Z (rfl) rfl Gp rfl) ?_
  refine A9 Z Z Z ?_
  first | refine J (Co rfl Tryz.underlying28 rfl) ?_ | refine J (C1 Z Z Tryz.underlying28 rfl) ?_ | refine J (Cp rfl Tryz.underlying28 rfl) ?_ | refine J (Cn rfl Tryz.underlying28 rfl) ?_ | refine J (Ca rfl Tryz.underlying28 rfl) ?_ | refine J (Ck rfl Tryz.underlying28 rfl) ?_
  refine A9 Z Z Z ?_
  first | refine J (DZ Z Z Z) ?_ | refine J (C5 Z Z Z) ?_
  refine J (EG Z Z Z Z) (AI ?_)
  first | refine BP rfl (fun h20=>?_) (fun h20=>?_) | refine BK rfl (fun h20=>?_) (fun h20=>?_)
  ·refine AG (AJ (AD Z Z (AI (Af ?_))));exact ⟨_,[],[],Ae rfl,rfl,rfl,Ak (by unfold Ab;rw [if_pos (by omega)]),rfl⟩
  ·refine An (AG (AG ?_));have hsz:¬(4096<p.it.length∨16384<p.ro.length):=by omega
   refine AJ ?_
   first | refine J (At Z Z A2 rfl) ?_ | refine J (Au Z Z A2 Z Z Z) ?_ | refine J (Av Z Z (rfl) rfl A2 rfl) ?_
   refine J (BO (rooms_p p g1) Z Z) (AD Z Z (AI (AG (AJ (AC Z Z ?_)))))
   first | refine J (Ec Z Z Z) ?_ | refine J (Eb Z Z Z) ?_ | refine J (EV Z Z Z) ?_ | refine J (E8 Tryz.underlying34 Z Z Z) ?_ | refine J (Ea Tryz.underlying34 Z Z Z) ?_ | refine J (st_neqN Tryz.underlying34 Z Z) ?_ | refine J (E9 Tryz.underlying34 Z Z Z) ?_ | refine J (st_neqFN Tryz.underlying34 Z Z) ?_
   refine AI ?_
   first | refine BP rfl (fun h24=>?_) (fun h24=>?_) | refine BK rfl (fun h24=>?_) (fun h24=>?_)
   ·refine AG (AJ (AC Z Z (AD Z Z (AI (Af ?_)))));exact ⟨_,[],[],Ae rfl,rfl,rfl,Ak (prbE_r hsz h24),rfl⟩
   ·refine An (AG ?_);have hr0:EH p.ro=0:=by simpa using h24
    refine AJ ?_;refine G (YX 2 Z Z Z Z) (G (YX 3 Z Z Z Z) (G (DT 4 zl173 Z Z Z Z) (G (CC Z Z Z Z Z Z Z sz173) (AD Z Z (AI (AG (AG (AJ ?_))))))))
    first | refine J (AO rfl DK Z Z Z) ?_ | refine J (AQ rfl DK Z Z Z) ?_ | refine J (AR rfl DK Z Z Z) ?_ | refine J (AP rfl DK Z Z Z) ?_ | refine J (AN rfl DK Z Z Z) ?_
    first | refine J (A0 Z Z CU rfl) ?_ | refine J (AX Z Z Z CU rfl) ?_ | refine J (AZ Z Z (rfl) rfl CU rfl) ?_
    first | refine J (Co rfl Tryz.underlying29 rfl) ?_ | refine J (C1 Z Z Tryz.underlying29 rfl) ?_ | refine J (Cp rfl Tryz.underlying29 rfl) ?_ | refine J (Cn rfl Tryz.underlying29 rfl) ?_ | refine J (Ca rfl Tryz.underlying29 rfl) ?_ | refine J (Ck rfl Tryz.underlying29 rfl) ?_
    refine AC Z Z (AI (Aw (EN (α:=Nat) (fun k=>⟨69,[(1,(.ptr 1 0 0)),(4,(.ptr 4 0 0)),(5,(.map 3 0)),(29,(.d (.sl none (p.it.map BC)))),(30,(.d (AF (p.it.length:Int)))),(31,(.d (AF (k:Int))))],[(1,[.blk 31 [.d (.sl none (p.ro.map F6)),.d (.sl none (p.it.map BC))]]),(4,[.blk 173 [.map 2 0]]),(2,[CD AF B5 (Aj ((p.it.take k).map AU.id))]),(3,[CD AF B5 (Aj ((p.it.take k).map AU.sq))])]⟩) (fun k=>k≤p.it.length∧GZ p.it=Bi (((List.range p.it.length).drop k).map (P3 p.it))) (fun k=>p.it.length - k) (0) (⟨Nat.zero_le _,rfl⟩) (BS hF [1,4,2,3] Z Z ⟨rfl,rfl,rfl,rfl,rfl,rfl,trivial⟩) ?_)));rintro k ⟨hk0,hk⟩;refine AG (AJ ?_)
    first | refine J (Cc Z Z Z) ?_ | refine J (Cb Z Z Z) ?_
    refine AI (AG ?_)
    first | refine BP rfl (fun h32=>?_) (fun h32=>?_) | refine BK rfl (fun h32=>?_) (fun h32=>?_)
    ·have hk1:k<p.it.length:=EF h32;refine An (AG (Aw (AG (AJ ?_))));have hE:=FU hk1 hk;have hgd:=Bh itm0 hk1;have hgi:=g3 _ (List.getElem_mem hk1)
     first | refine J (Ch (k) Z Z (rfl) (A3 hk1) Tryz.underlying29 rfl Cq rfl) ?_ | refine J (Cj (k) Z Z (rfl) (A3 hk1) rfl Tryz.underlying29 Cq rfl) ?_
     first | refine J (At Z Z Ag rfl) ?_ | refine J (Au Z Z Ag Z Z Z) ?_ | refine J (Av Z Z (rfl) rfl Ag rfl) ?_
     refine G (DT 5 FI Z Z Z Z) (G (CC Z Z Z Z Z Z Z Cq) (AI (AG (AG (AJ ?_)))))
     first | refine J (At Z Z Ag rfl) ?_ | refine J (Au Z Z Ag Z Z Z) ?_ | refine J (Av Z Z (rfl) rfl Ag rfl) ?_
     refine J (BO (Jy p.it[k] (by omega) (by omega) (by omega)) Z Z) (AD Z Z (AI (AG (AJ (AC Z Z ?_)))))
     first | refine J (Ec Z Z Z) ?_ | refine J (Eb Z Z Z) ?_ | refine J (EV Z Z Z) ?_ | refine J (E8 Tryz.underlying34 Z Z Z) ?_ | refine J (Ea Tryz.underlying34 Z Z Z) ?_ | refine J (st_neqN Tryz.underlying34 Z Z) ?_ | refine J (E9 Tryz.underlying34 Z Z Z) ?_ | refine J (st_neqFN Tryz.underlying34 Z Z) ?_
     refine AI ?_
     first | refine BP rfl (fun h38=>?_) (fun h38=>?_) | refine BK rfl (fun h38=>?_) (fun h38=>?_)
     ·refine AG (AJ (AC Z Z (AD Z Z (AI (Af ?_)))));exact ⟨_,[],[],Ae rfl,rfl,rfl,Ak (SY hsz hr0 (hE.2 _ (by unfold P3;rw [hgd,if_pos h38]) h38) h38),rfl⟩
     ·refine An (AG (AG (AJ ?_)))
      first | refine J (A0 Z Z J9 rfl) ?_ | refine J (AX Z Z Z J9 rfl) ?_ | refine J (AZ Z Z (rfl) rfl J9 rfl) ?_
      first | refine J (AO rfl Bq Z Z Z) ?_ | refine J (AQ rfl Bq Z Z Z) ?_ | refine J (AR rfl Bq Z Z Z) ?_ | refine J (AP rfl Bq Z Z Z) ?_ | refine J (AN rfl Bq Z Z Z) ?_
      first | refine J (A0 Z Z Aa rfl) ?_ | refine J (AX Z Z Z Aa rfl) ?_ | refine J (AZ Z Z (rfl) rfl Aa rfl) ?_
      refine J (LT (Aj ((p.it.take k).map AU.id)) (p.it[k].id) (false) _ Z Z Z MU KI za4 Z Z) ?_;rw [Dx];refine AC Z Z ?_
      first | refine JH 44 rfl (fun h44=>?_) (fun h44=>?_) | refine IW 44 rfl (fun h44=>?_) (fun h44=>?_)
      ·refine Ac Z Z Z Z (Ac Z Z Z Z (Ac Z Z Z Z ?_));refine Ac Z Z Z Z (J (DX Z Z Z Z) (AI (EL Z Z (AG (AJ (AD Z Z (AI (Af ?_))))))));exact ⟨_,[],[],Ae rfl,rfl,rfl,Ak (SY hsz hr0 (hE.2 7 (by unfold P3;rw [hgd,if_neg h38,if_pos (by simp_all)]) (by decide)) (by decide)),rfl⟩
      ·refine A9 Z Z Z (AC Z Z (A9 Z Z Z ?_))
       first | refine J (AO rfl GH Z Z Z) ?_ | refine J (AQ rfl GH Z Z Z) ?_ | refine J (AR rfl GH Z Z Z) ?_ | refine J (AP rfl GH Z Z Z) ?_ | refine J (AN rfl GH Z Z Z) ?_
       refine A9 Z Z Z ?_
       first | refine J (A0 Z Z Aa rfl) ?_ | refine J (AX Z Z Z Aa rfl) ?_ | refine J (AZ Z Z (rfl) rfl Aa rfl) ?_
       refine A9 Z Z Z (J (LT (Aj ((p.it.take k).map AU.sq)) (p.it[k].sq) (false) _ Z Z Z MU KI za4 Z Z) ?_);rw [Dx];refine J (EG Z Z Z Z) (AI ?_)
       first | refine BP rfl (fun h49=>?_) (fun h49=>?_) | refine BK rfl (fun h49=>?_) (fun h49=>?_)
       ·refine AG (AJ (AD Z Z (AI (Af ?_))));exact ⟨_,[],[],Ae rfl,rfl,rfl,Ak (SY hsz hr0 (hE.2 7 (by unfold P3;rw [hgd,if_neg h38,if_pos (by simp_all)]) (by decide)) (by decide)),rfl⟩
       ·refine An ?_;have n1:p.it[k].id∉(p.it.take k).map AU.id:=by simp_all
        have n2:p.it[k].sq∉(p.it.take k).map AU.sq:=by simp_all
        refine Gs [[],[],[1],[],[],[4],[0,1,2],[0,1,2,3,4,5,6]] BF rfl (IK ?_)
        first | refine AE [4] [4,2] Z Z (fun _=>AB (A0 Z Z J9 rfl)) ?_ | refine AE [4] [4,2] Z Z (fun _=>AB (AX Z Z Z J9 rfl)) ?_ | refine AE [4] [4,2] Z Z (fun _=>AB (AZ Z Z (rfl) rfl J9 rfl)) ?_
        first | refine AE [7] [] Z Z (fun _=>AB (AO rfl Bq Z Z Z)) ?_ | refine AH [7] Z Z (fun _=>AB (AO rfl Bq Z Z Z)) ?_ | refine AE [7] [] Z Z (fun _=>AB (AQ rfl Bq Z Z Z)) ?_ | refine AH [7] Z Z (fun _=>AB (AQ rfl Bq Z Z Z)) ?_ | refine AE [7] [] Z Z (fun _=>AB (AR rfl Bq Z Z Z)) ?_ | refine AH [7] Z Z (fun _=>AB (AR rfl Bq Z Z Z)) ?_ | refine AE [7] [] Z Z (fun _=>AB (AP rfl Bq Z Z Z)) ?_ | refine AH [7] Z Z (fun _=>AB (AP rfl Bq Z Z Z)) ?_ | refine AE [7] [] Z Z (fun _=>AB (AN rfl Bq Z Z Z)) ?_ | refine AH [7] Z Z (fun _=>AB (AN rfl Bq Z Z Z)) ?_
        first | refine AE [51] [5] Z Z (fun _=>AB (A0 Z Z Aa rfl)) ?_ | refine AE [51] [5] Z Z (fun _=>AB (AX Z Z Z Aa rfl)) ?_ | refine AE [51] [5] Z Z (fun _=>AB (AZ Z Z (rfl) rfl Aa rfl)) ?_
        first | refine AE [5] [] Z Z (fun _=>AB (Bb Z Z)) ?_ | refine AH [5] Z Z (fun _=>AB (Bb Z Z)) ?_
        first | refine AE [7] [] Z Z (fun _=>AB (AO rfl GH Z Z Z)) ?_ | refine AH [7] Z Z (fun _=>AB (AO rfl GH Z Z Z)) ?_ | refine AE [7] [] Z Z (fun _=>AB (AQ rfl GH Z Z Z)) ?_ | refine AH [7] Z Z (fun _=>AB (AQ rfl GH Z Z Z)) ?_ | refine AE [7] [] Z Z (fun _=>AB (AR rfl GH Z Z Z)) ?_ | refine AH [7] Z Z (fun _=>AB (AR rfl GH Z Z Z)) ?_ | refine AE [7] [] Z Z (fun _=>AB (AP rfl GH Z Z Z)) ?_ | refine AH [7] Z Z (fun _=>AB (AP rfl GH Z Z Z)) ?_ | refine AE [7] [] Z Z (fun _=>AB (AN rfl GH Z Z Z)) ?_ | refine AH [7] Z Z (fun _=>AB (AN rfl GH Z Z Z)) ?_
        first | refine AE [54] [5] Z Z (fun _=>AB (A0 Z Z Aa rfl)) ?_ | refine AE [54] [5] Z Z (fun _=>AB (AX Z Z Z Aa rfl)) ?_ | refine AE [54] [5] Z Z (fun _=>AB (AZ Z Z (rfl) rfl Aa rfl)) ?_
        first | refine G7 [50,52] [2] [] Z Z (fun _=>G8 (FR (Aj ((p.it.take k).map AU.id)) (p.it[k].id) (true) Z Z Z MU KI Z Z)) (.inl ⟨rfl,rfl⟩) Z Z Z Z Z ?_ | refine G7 [50,52] [2] [] Z Z (fun _=>G8 (Dv (Aj ((p.it.take k).map AU.id)) (p.it[k].id) (true) Z Z Z MU KI Z Z)) (.inl ⟨rfl,rfl⟩) Z Z Z Z Z ?_
        refine Gf 7 Z Z Z (BE 8 Z Z ?_)
        first | refine G (FR (Aj ((p.it.take k).map AU.sq)) (p.it[k].sq) (true) Z Z Z MU KI Z Z) ?_ | refine G (Dv (Aj ((p.it.take k).map AU.sq)) (p.it[k].sq) (true) Z Z Z MU KI Z Z) ?_
        refine AI ⟨rfl,?_⟩;refine Ge (AJ (J (By Z Z (Ad (k+1) (by omega)) rfl) (AC Z Z (AI ?_))));exact ⟨k+1,⟨by show k+1≤_;omega,hE.1 (by unfold P3;rw [hgd,if_neg h38,if_neg (by rintro (h | h);exact n1 h;exact n2 h)])⟩,by show p.it.length - (k+1)<p.it.length - k;omega,BS hF [1,4,2,3] rfl (by rw [Cd hk1,Cd hk1,←HC n1,←HC n2];rfl) ⟨rfl,rfl,rfl,rfl,rfl,rfl,trivial⟩⟩
    ·refine Ct (AG (AG ?_));have hi0:GZ p.it=0:=by rw [hk,List.drop_of_length_le (by have h:=h32;simp only [List.length_range];omega)];rfl
     have hfull:p.it.take k=p.it:=List.take_of_length_le (by have h:=h32;omega);rw [hfull];refine AJ ?_
     first | refine J (AO rfl DK Z Z Z) ?_ | refine J (AQ rfl DK Z Z Z) ?_ | refine J (AR rfl DK Z Z Z) ?_ | refine J (AP rfl DK Z Z Z) ?_ | refine J (AN rfl DK Z Z Z) ?_
     first | refine J (A0 Z Z CU rfl) ?_ | refine J (AX Z Z Z CU rfl) ?_ | refine J (AZ Z Z (rfl) rfl CU rfl) ?_
     first | refine J (Co rfl Tryz.underlying29 rfl) ?_ | refine J (C1 Z Z Tryz.underlying29 rfl) ?_ | refine J (Cp rfl Tryz.underlying29 rfl) ?_ | refine J (Cn rfl Tryz.underlying29 rfl) ?_ | refine J (Ca rfl Tryz.underlying29 rfl) ?_ | refine J (Ck rfl Tryz.underlying29 rfl) ?_
     refine AC Z Z (AI (Aw (EN (α:=Nat) (fun k=>⟨69,[(4,(.ptr 4 0 0)),(58,(.d (.sl none (p.it.map BC)))),(59,(.d (AF (p.it.length:Int)))),(60,(.d (AF (k:Int))))],[(4,[.blk 173 [.map 2 0]]),(2,[CD AF B5 (Aj (p.it.map AU.id))])]⟩) (fun k=>k≤p.it.length∧Pj p.it=Bi ((p.it.drop k).map (Sp (p.it.map AU.id)))) (fun k=>p.it.length - k) (0) (⟨Nat.zero_le _,rfl⟩) (BS hF [4,2] Z Z ⟨rfl,rfl,rfl,rfl,trivial⟩) ?_)));rintro k ⟨hk0,hk⟩;refine AG (AJ ?_)
     first | refine J (Cc Z Z Z) ?_ | refine J (Cb Z Z Z) ?_
     refine AI (AG ?_)
     first | refine BP rfl (fun h61=>?_) (fun h61=>?_) | refine BK rfl (fun h61=>?_) (fun h61=>?_)
     ·have hk1:k<p.it.length:=EF h61;refine An (AG (Aw (AG (AJ ?_))));have hE:=D8 hk1 hk;have hgi:=g3 _ (List.getElem_mem hk1)
      first | refine J (Ch (k) Z Z (rfl) (A3 hk1) Tryz.underlying29 rfl Cq rfl) ?_ | refine J (Cj (k) Z Z (rfl) (A3 hk1) rfl Tryz.underlying29 Cq rfl) ?_
      first | refine J (At Z Z Ag rfl) ?_ | refine J (Au Z Z Ag Z Z Z) ?_ | refine J (Av Z Z (rfl) rfl Ag rfl) ?_
      refine G (DT 6 FI Z Z Z Z) (G (CC Z Z Z Z Z Z Z Cq) (AI (AG (AJ ?_))))
      first | refine J (AO rfl Ff Z Z Z) ?_ | refine J (AQ rfl Ff Z Z Z) ?_ | refine J (AR rfl Ff Z Z Z) ?_ | refine J (AP rfl Ff Z Z Z) ?_ | refine J (AN rfl Ff Z Z Z) ?_
      first | refine J (A0 Z Z BD rfl) ?_ | refine J (AX Z Z Z BD rfl) ?_ | refine J (AZ Z Z (rfl) rfl BD rfl) ?_
      refine J (DD Z Z) (G (IL ((RY (p.it.map AU.id) p.it[k].af (by omega)).by [(910,4),(911,2)] rfl) rfl [4,2] ⟨rfl,rfl,trivial⟩ Z Z Z Z Z Z Z Z Z) (AI ?_))
      first | refine BP rfl (fun h67=>?_) (fun h67=>?_) | refine BK rfl (fun h67=>?_) (fun h67=>?_)
      ·refine AG (AJ (AD Z Z (AI (Af ?_))));exact ⟨_,[],[],Ae rfl,rfl,rfl,Ak (Wk hsz hr0 hi0 (hE.2 9 (by unfold Sp;rw [if_pos (by simpa using h67)]) (by decide))),rfl⟩
      ·refine An (AJ (J (By Z Z (Ad (k+1) (by omega)) rfl) (AC Z Z (AI ?_))));exact ⟨k+1,⟨by show k+1≤_;omega,hE.1 (by unfold Sp;rw [if_neg (by simpa using h67)])⟩,by show p.it.length - (k+1)<p.it.length - k;omega,BS hF [4,2] rfl (rfl) ⟨rfl,rfl,rfl,rfl,trivial⟩⟩
     ·refine Ct (AG (AJ (AD Z Z (AI (Af ?_)))));exact ⟨_,[],[],Ae rfl,rfl,rfl,Ak (Wk hsz hr0 hi0 (by rw [hk,Fy (by have h:=h61;omega)])),rfl⟩
abbrev QV (T:TypeId) (p:Prb):AL:= .blk T [.d (.sl none (p.ro.map F6)),.d (.sl none (p.it.map BC))]
theorem MY {α β:Type} {l:List α} {f:α ->β} {m k:Nat} (hk:k<l.length) (hm:m<k) {b:β} (h:f l[m]=b):b∈(l.take k).map f:=by
 refine List.mem_map.2 ⟨l[m],?_,h⟩;rw [List.mem_take_iff_getElem];exact ⟨m,by omega,rfl⟩
theorem VF {α β:Type} {l:List α} {f:α ->β} {m:Nat} (hm:m<l.length) {b:β} (h:b∉(l.take m).map f) (h2:f l[m]≠b):b∉(l.take (m+1)).map f:=by
 rw [Cd hm,List.mem_append,List.mem_singleton];rintro (h3 | h3)
 ·exact h h3
 ·exact h2 h3.symm
def Sml (p:Prb):Prop:=p.it.length≤12∧p.ro.length≤24∧∀i∈p.it,i.po.length≤12∧i.pa.length≤12∧i.af.length≤12
instance (p:Prb):Decidable (Sml p):=inferInstanceAs (Decidable (_∧_∧∀i∈p.it,_))
theorem small_p (p:Prb):AT Tryz.prog 8 [.d (CT p)] (B5 (decide (Sml p))):=by
 refine B6 Tryz.func8 Z Z Tryz.ntmps8 Z Z Z fun F hF=>(AG (AJ (G (CV 1 Z Z Z Z Z Z Z) (AD Z Z (AI (AG (AG (AJ ?_))))))))
 first | refine J (AO rfl GG Z Z Z) ?_ | refine J (AQ rfl GG Z Z Z) ?_ | refine J (AR rfl GG Z Z Z) ?_ | refine J (AP rfl GG Z Z Z) ?_ | refine J (AN rfl GG Z Z Z) ?_
 first | refine J (A0 Z Z E3 rfl) ?_ | refine J (AX Z Z Z E3 rfl) ?_ | refine J (AZ Z Z (rfl) rfl E3 rfl) ?_
 first | refine J (Co rfl Tryz.underlying23 rfl) ?_ | refine J (C1 Z Z Tryz.underlying23 rfl) ?_ | refine J (Cp rfl Tryz.underlying23 rfl) ?_ | refine J (Cn rfl Tryz.underlying23 rfl) ?_ | refine J (Ca rfl Tryz.underlying23 rfl) ?_ | refine J (Ck rfl Tryz.underlying23 rfl) ?_
 first | refine J (DZ Z Z Z) ?_ | refine J (C5 Z Z Z) ?_
 refine AC Z Z ?_
 first | refine JH 8 rfl (fun h8=>?_) (fun h8=>?_) | refine IW 8 rfl (fun h8=>?_) (fun h8=>?_)
 ·refine Ac Z Z Z Z (Ac Z Z Z Z (Ac Z Z Z Z ?_));refine Ac Z Z Z Z (J (DX Z Z Z Z) (AI (EL Z Z (AG (AJ (AD Z Z (AI (Af ?_))))))));exact ⟨_,[],[],Ae rfl,rfl,rfl,PH (fun h=>by have h1:=h.1;have h2:=h.2.1;omega),rfl⟩
 ·refine A9 Z Z Z ?_
  first | refine J (AO rfl JD Z Z Z) ?_ | refine J (AQ rfl JD Z Z Z) ?_ | refine J (AR rfl JD Z Z Z) ?_ | refine J (AP rfl JD Z Z Z) ?_ | refine J (AN rfl JD Z Z Z) ?_
  refine A9 Z Z Z ?_
  first | refine J (A0 Z Z Gq rfl) ?_ | refine J (AX Z Z Z Gq rfl) ?_ | refine J (AZ Z Z (rfl) rfl Gq rfl) ?_
  refine A9 Z Z Z ?_
  first | refine J (Co rfl Tryz.underlying22 rfl) ?_ | refine J (C1 Z Z Tryz.underlying22 rfl) ?_ | refine J (Cp rfl Tryz.underlying22 rfl) ?_ | refine J (Cn rfl Tryz.underlying22 rfl) ?_ | refine J (Ca rfl Tryz.underlying22 rfl) ?_ | refine J (Ck rfl Tryz.underlying22 rfl) ?_
  refine A9 Z Z Z ?_
  first | refine J (DZ Z Z Z) ?_ | refine J (C5 Z Z Z) ?_
  refine J (EG Z Z Z Z) (AI ?_)
  first | refine BP rfl (fun h13=>?_) (fun h13=>?_) | refine BK rfl (fun h13=>?_) (fun h13=>?_)
  ·refine AG (AJ (AD Z Z (AI (Af ?_))));exact ⟨_,[],[],Ae rfl,rfl,rfl,PH (fun h=>by have h1:=h.1;have h2:=h.2.1;omega),rfl⟩
  ·refine An (AG (AG (AJ (AD Z Z (AI (Aw (EN (α:=Nat) (fun k=>⟨49,[(1,(.ptr 1 0 0)),(3,(.d (AF (k:Int))))],[(1,[QV 25 p])]⟩) (fun k=>k≤p.it.length∧∀i∈p.it.take k,i.po.length≤12∧i.pa.length≤12∧i.af.length≤12) (fun k=>p.it.length - k) (0) (⟨Nat.zero_le _,by simp⟩) (BS hF [1] Z Z ⟨rfl,rfl,trivial⟩) ?_)))))));rintro k ⟨hk0,hk⟩;refine AG (AG (AJ (AC Z Z ?_)))
   first | refine J (AO rfl GG Z Z Z) ?_ | refine J (AQ rfl GG Z Z Z) ?_ | refine J (AR rfl GG Z Z Z) ?_ | refine J (AP rfl GG Z Z Z) ?_ | refine J (AN rfl GG Z Z Z) ?_
   first | refine J (A0 Z Z E3 rfl) ?_ | refine J (AX Z Z Z E3 rfl) ?_ | refine J (AZ Z Z (rfl) rfl E3 rfl) ?_
   first | refine J (Co rfl Tryz.underlying23 rfl) ?_ | refine J (C1 Z Z Tryz.underlying23 rfl) ?_ | refine J (Cp rfl Tryz.underlying23 rfl) ?_ | refine J (Cn rfl Tryz.underlying23 rfl) ?_ | refine J (Ca rfl Tryz.underlying23 rfl) ?_ | refine J (Ck rfl Tryz.underlying23 rfl) ?_
   first | refine J (Cc Z Z Z) ?_ | refine J (Cb Z Z Z) ?_
   refine AI ?_
   first | refine BP rfl (fun h18=>?_) (fun h18=>?_) | refine BK rfl (fun h18=>?_) (fun h18=>?_)
   ·have hk1:k<p.it.length:=EF h18;refine An (AG (Aw (AG (AJ ?_))))
    first | refine J (AO rfl GG Z Z Z) ?_ | refine J (AQ rfl GG Z Z Z) ?_ | refine J (AR rfl GG Z Z Z) ?_ | refine J (AP rfl GG Z Z Z) ?_ | refine J (AN rfl GG Z Z Z) ?_
    first | refine J (A0 Z Z E3 rfl) ?_ | refine J (AX Z Z Z E3 rfl) ?_ | refine J (AZ Z Z (rfl) rfl E3 rfl) ?_
    refine AC Z Z ?_
    first | refine J (Ch (k) Z Z (rfl) (A3 hk1) Tryz.underlying23 rfl NP rfl) ?_ | refine J (Cj (k) Z Z (rfl) (A3 hk1) rfl Tryz.underlying23 NP rfl) ?_
    first | refine J (AO rfl JG Z Z Z) ?_ | refine J (AQ rfl JG Z Z Z) ?_ | refine J (AR rfl JG Z Z Z) ?_ | refine J (AP rfl JG Z Z Z) ?_ | refine J (AN rfl JG Z Z Z) ?_
    first | refine J (A0 Z Z Gm rfl) ?_ | refine J (AX Z Z Z Gm rfl) ?_ | refine J (AZ Z Z (rfl) rfl Gm rfl) ?_
    first | refine J (Co rfl Tryz.underlying69 rfl) ?_ | refine J (C1 Z Z Tryz.underlying69 rfl) ?_ | refine J (Cp rfl Tryz.underlying69 rfl) ?_ | refine J (Cn rfl Tryz.underlying69 rfl) ?_ | refine J (Ca rfl Tryz.underlying69 rfl) ?_ | refine J (Ck rfl Tryz.underlying69 rfl) ?_
    first | refine J (DZ Z Z Z) ?_ | refine J (C5 Z Z Z) ?_
    refine AC Z Z ?_
    first | refine JH 29 rfl (fun h29=>?_) (fun h29=>?_) | refine IW 29 rfl (fun h29=>?_) (fun h29=>?_)
    ·refine Ac Z Z Z Z (Ac Z Z Z Z (Ac Z Z Z Z (Ac Z Z Z Z (Ac Z Z Z Z (Ac Z Z Z Z (Ac Z Z Z Z (Ac Z Z Z Z ?_)))))));refine J (DX Z Z Z Z) (AC Z Z (Ac Z Z Z Z (Ac Z Z Z Z (Ac Z Z Z Z (Ac Z Z Z Z (Ac Z Z Z Z (Ac Z Z Z Z (Ac Z Z Z Z ?_))))))));refine Ac Z Z Z Z (J (DX Z Z Z Z) (AI (EL Z Z (AG (AJ (AD Z Z (AI (Af ?_))))))));exact ⟨_,[],[],Ae rfl,rfl,rfl,PH (fun h=>by have h1:=h.2.2 _ (List.getElem_mem hk1);omega),rfl⟩
    ·refine A9 Z Z Z ?_
     first | refine J (AO rfl GG Z Z Z) ?_ | refine J (AQ rfl GG Z Z Z) ?_ | refine J (AR rfl GG Z Z Z) ?_ | refine J (AP rfl GG Z Z Z) ?_ | refine J (AN rfl GG Z Z Z) ?_
     refine A9 Z Z Z ?_
     first | refine J (A0 Z Z E3 rfl) ?_ | refine J (AX Z Z Z E3 rfl) ?_ | refine J (AZ Z Z (rfl) rfl E3 rfl) ?_
     refine A9 Z Z Z (AC Z Z (A9 Z Z Z ?_))
     first | refine J (Ch (k) Z Z (rfl) (A3 hk1) Tryz.underlying23 rfl NP rfl) ?_ | refine J (Cj (k) Z Z (rfl) (A3 hk1) rfl Tryz.underlying23 NP rfl) ?_
     refine A9 Z Z Z ?_
     first | refine J (AO rfl Oh Z Z Z) ?_ | refine J (AQ rfl Oh Z Z Z) ?_ | refine J (AR rfl Oh Z Z Z) ?_ | refine J (AP rfl Oh Z Z Z) ?_ | refine J (AN rfl Oh Z Z Z) ?_
     refine A9 Z Z Z ?_
     first | refine J (A0 Z Z LZ rfl) ?_ | refine J (AX Z Z Z LZ rfl) ?_ | refine J (AZ Z Z (rfl) rfl LZ rfl) ?_
     refine A9 Z Z Z ?_
     first | refine J (Co rfl Tryz.underlying70 rfl) ?_ | refine J (C1 Z Z Tryz.underlying70 rfl) ?_ | refine J (Cp rfl Tryz.underlying70 rfl) ?_ | refine J (Cn rfl Tryz.underlying70 rfl) ?_ | refine J (Ca rfl Tryz.underlying70 rfl) ?_ | refine J (Ck rfl Tryz.underlying70 rfl) ?_
     refine A9 Z Z Z ?_
     first | refine J (DZ Z Z Z) ?_ | refine J (C5 Z Z Z) ?_
     refine J (EG Z Z Z Z) (AC Z Z ?_)
     first | refine JH 39 rfl (fun h39=>?_) (fun h39=>?_) | refine IW 39 rfl (fun h39=>?_) (fun h39=>?_)
     ·refine Ac Z Z Z Z (Ac Z Z Z Z (Ac Z Z Z Z (Ac Z Z Z Z (Ac Z Z Z Z (Ac Z Z Z Z (Ac Z Z Z Z ?_))))));refine Ac Z Z Z Z (J (DX Z Z Z Z) (AI (EL Z Z (AG (AJ (AD Z Z (AI (Af ?_))))))));exact ⟨_,[],[],Ae rfl,rfl,rfl,PH (fun h=>by have h1:=h.2.2 _ (List.getElem_mem hk1);omega),rfl⟩
     ·refine A9 Z Z Z ?_
      first | refine J (AO rfl GG Z Z Z) ?_ | refine J (AQ rfl GG Z Z Z) ?_ | refine J (AR rfl GG Z Z Z) ?_ | refine J (AP rfl GG Z Z Z) ?_ | refine J (AN rfl GG Z Z Z) ?_
      refine A9 Z Z Z ?_
      first | refine J (A0 Z Z E3 rfl) ?_ | refine J (AX Z Z Z E3 rfl) ?_ | refine J (AZ Z Z (rfl) rfl E3 rfl) ?_
      refine A9 Z Z Z (AC Z Z (A9 Z Z Z ?_))
      first | refine J (Ch (k) Z Z (rfl) (A3 hk1) Tryz.underlying23 rfl NP rfl) ?_ | refine J (Cj (k) Z Z (rfl) (A3 hk1) rfl Tryz.underlying23 NP rfl) ?_
      refine A9 Z Z Z ?_
      first | refine J (AO rfl Cz Z Z Z) ?_ | refine J (AQ rfl Cz Z Z Z) ?_ | refine J (AR rfl Cz Z Z Z) ?_ | refine J (AP rfl Cz Z Z Z) ?_ | refine J (AN rfl Cz Z Z Z) ?_
      refine A9 Z Z Z ?_
      first | refine J (A0 Z Z BD rfl) ?_ | refine J (AX Z Z Z BD rfl) ?_ | refine J (AZ Z Z (rfl) rfl BD rfl) ?_
      refine A9 Z Z Z ?_
      first | refine J (Co rfl Tryz.underlying33 rfl) ?_ | refine J (C1 Z Z Tryz.underlying33 rfl) ?_ | refine J (Cp rfl Tryz.underlying33 rfl) ?_ | refine J (Cn rfl Tryz.underlying33 rfl) ?_ | refine J (Ca rfl Tryz.underlying33 rfl) ?_ | refine J (Ck rfl Tryz.underlying33 rfl) ?_
      refine A9 Z Z Z ?_
      first | refine J (DZ Z Z Z) ?_ | refine J (C5 Z Z Z) ?_
      refine J (EG Z Z Z Z) (AI ?_)
      first | refine BP rfl (fun h48=>?_) (fun h48=>?_) | refine BK rfl (fun h48=>?_) (fun h48=>?_)
      ·refine AG (AJ (AD Z Z (AI (Af ?_))));exact ⟨_,[],[],Ae rfl,rfl,rfl,PH (fun h=>by have h1:=h.2.2 _ (List.getElem_mem hk1);omega),rfl⟩
      ·refine An (AJ (AC Z Z (J (By Z Z (Ad (k+1) (by omega)) rfl) (AD Z Z (AI ?_)))));exact ⟨k+1,⟨by show k+1≤_;omega,by rw [List.take_succ_eq_append_getElem hk1];intro i hi;rcases List.mem_append.1 hi with hi | hi;exact hk i hi;rw [List.mem_singleton.1 hi];omega⟩,by show p.it.length - (k+1)<p.it.length - k;omega,BS hF [1] rfl (rfl) ⟨rfl,rfl,trivial⟩⟩
   ·refine Ct (AG (AJ (AD Z Z (AI (Af ?_)))));exact ⟨_,[],[],Ae rfl,rfl,rfl,retT ⟨by omega,by omega,fun i hi=>hk i (by rw [List.take_of_length_le (by have h:=h18;omega)];exact hi)⟩,rfl⟩
def NY:List AU ->AU ->List AU
 | [],x=> [x]
 | a::l,x=>if ∀y∈a::l,If x y<0 then x::a::l else a::NY l x
def sortO (l:List AU):List AU:=l.foldl NY []
theorem Xg (l:List AU) (x:AU):(NY l x).length=l.length+1:=by
 induction l with
 | nil=>rfl
 | cons a l ih=>
  simp only [NY];split
  ·rfl
  ·simp only [List.length_cons,ih]
theorem I6 (l:List AU) (x:AU):sortO (l++ [x])=NY (sortO l) x:=by simp [sortO]
theorem Nk (l:List AU):(sortO l).length=l.length:=by
 induction l using Y0 with
 | h0=>rfl
 | h1 l x ih=>rw [I6,Xg,ih];simp
def qIds (l:List AU) (r:A5):List Int:=(l.filter fun i=>decide (CO i r<0)).map AU.id
theorem R0 (l:List Ee) (hl:l.length≤1000000):AT Tryz.prog 92 [.d (.sl none (l.map C7))] (.sl none (l.map C7)):=by
 refine B6 Tryz.func92 Z Z Tryz.ntmps92 Z Z Z fun F hF=>(AG ?_);refine AJ (AD Z Z (Ro 2 rfl (AI (AG (AG (AJ (AC Z Z (GV 3 rfl (fun h0=>?_) ?_))))))))
 ·first | refine J (EX Z Z Z) ?_ | refine J (EY Z Z Z) ?_ | refine J (EO Z Z Z) ?_ | refine J (ER Tryz.underlying46 Z Z Z) ?_ | refine J (EU Tryz.underlying46 Z Z Z) ?_ | refine J (ET Tryz.underlying46 Z Z) ?_ | refine J (ES Tryz.underlying46 Z Z Z) ?_ | refine J (EW Tryz.underlying46 Z Z) ?_
  refine AI (EL rfl (rfl) (AG (AJ (AD Z Z (Ro 2 rfl (AI (Af ?_)))))));exact ⟨_,[],[],Ae rfl,rfl,rfl,by first | (rw [h0];done) | (rw [h0]),rfl⟩
 ·first | refine J (EX Z Z Z) ?_ | refine J (EY Z Z Z) ?_ | refine J (EO Z Z Z) ?_ | refine J (ER Tryz.underlying46 Z Z Z) ?_ | refine J (EU Tryz.underlying46 Z Z Z) ?_ | refine J (ET Tryz.underlying46 Z Z) ?_ | refine J (ES Tryz.underlying46 Z Z Z) ?_ | refine J (EW Tryz.underlying46 Z Z) ?_
  refine AI (F4 rfl (rfl) (An (AG (AJ (G (Fg 20 PD Z Z Z Z Z Z Z Z) (AC Z Z ?_))))))
  first | refine G (IX (([]:List Ee)) (l) Z Z Z Z Z Z Z Z PD (by simp only [List.length_nil];omega) Z Z Z Z) ?_ | refine G (Kp (([]:List Ee)) (l) Z Z Z Z Z Z (fun _=>rfl) PD (by simp only [List.length_nil];omega) Z Z Z Z) ?_
  refine Zc2 (emb:=C7) 7 20 ([]++l) Z Z Z Z Z Z Z (AD Z Z ?_);skip;refine AI (Af ?_);exact ⟨_,[],[],Ae rfl,rfl,rfl,rfl,rfl⟩
theorem RZ (l:List NJ) (hl:l.length≤1000000):AT Tryz.prog 93 [.d (.sl none (l.map Gl))] (.sl none (l.map Gl)):=by
 refine B6 Tryz.func93 Z Z Tryz.ntmps93 Z Z Z fun F hF=>(AG ?_);refine AJ (AD Z Z (Ro 2 rfl (AI (AG (AG (AJ (AC Z Z (GV 3 rfl (fun h0=>?_) ?_))))))))
 ·first | refine J (EX Z Z Z) ?_ | refine J (EY Z Z Z) ?_ | refine J (EO Z Z Z) ?_ | refine J (ER Tryz.underlying47 Z Z Z) ?_ | refine J (EU Tryz.underlying47 Z Z Z) ?_ | refine J (ET Tryz.underlying47 Z Z) ?_ | refine J (ES Tryz.underlying47 Z Z Z) ?_ | refine J (EW Tryz.underlying47 Z Z) ?_
  refine AI (EL rfl (rfl) (AG (AJ (AD Z Z (Ro 2 rfl (AI (Af ?_)))))));exact ⟨_,[],[],Ae rfl,rfl,rfl,by first | (rw [h0];done) | (rw [h0]),rfl⟩
 ·first | refine J (EX Z Z Z) ?_ | refine J (EY Z Z Z) ?_ | refine J (EO Z Z Z) ?_ | refine J (ER Tryz.underlying47 Z Z Z) ?_ | refine J (EU Tryz.underlying47 Z Z Z) ?_ | refine J (ET Tryz.underlying47 Z Z) ?_ | refine J (ES Tryz.underlying47 Z Z Z) ?_ | refine J (EW Tryz.underlying47 Z Z) ?_
  refine AI (F4 rfl (rfl) (An (AG (AJ (G (Fg 20 QN Z Z Z Z Z Z Z Z) (AC Z Z ?_))))))
  first | refine G (IX (([]:List NJ)) (l) Z Z Z Z Z Z Z Z QN (by simp only [List.length_nil];omega) Z Z Z Z) ?_ | refine G (Kp (([]:List NJ)) (l) Z Z Z Z Z Z (fun _=>rfl) QN (by simp only [List.length_nil];omega) Z Z Z Z) ?_
  refine Zc2 (emb:=Gl) 7 20 ([]++l) Z Z Z Z Z Z Z (AD Z Z ?_);skip;refine AI (Af ?_);exact ⟨_,[],[],Ae rfl,rfl,rfl,rfl,rfl⟩
theorem R1 (l:List Int) (hl:l.length≤1000000):AT Tryz.prog 94 [.d (.sl none (l.map AF))] (.sl none (l.map AF)):=by
 refine B6 Tryz.func94 Z Z Tryz.ntmps94 Z Z Z fun F hF=>(AG ?_);refine AJ (AD Z Z (Ro 2 rfl (AI (AG (AG (AJ (AC Z Z (GV 3 rfl (fun h0=>?_) ?_))))))))
 ·first | refine J (EX Z Z Z) ?_ | refine J (EY Z Z Z) ?_ | refine J (EO Z Z Z) ?_ | refine J (ER Tryz.underlying33 Z Z Z) ?_ | refine J (EU Tryz.underlying33 Z Z Z) ?_ | refine J (ET Tryz.underlying33 Z Z) ?_ | refine J (ES Tryz.underlying33 Z Z Z) ?_ | refine J (EW Tryz.underlying33 Z Z) ?_
  refine AI (EL rfl (rfl) (AG (AJ (AD Z Z (Ro 2 rfl (AI (Af ?_)))))));exact ⟨_,[],[],Ae rfl,rfl,rfl,by first | (rw [h0];done) | (rw [h0]),rfl⟩
 ·first | refine J (EX Z Z Z) ?_ | refine J (EY Z Z Z) ?_ | refine J (EO Z Z Z) ?_ | refine J (ER Tryz.underlying33 Z Z Z) ?_ | refine J (EU Tryz.underlying33 Z Z Z) ?_ | refine J (ET Tryz.underlying33 Z Z) ?_ | refine J (ES Tryz.underlying33 Z Z Z) ?_ | refine J (EW Tryz.underlying33 Z Z) ?_
  refine AI (F4 rfl (rfl) (An (AG (AJ (G (Fg 20 CS Z Z Z Z Z Z Z Z) (AC Z Z ?_))))))
  first | refine G (IX (([]:List Int)) (l) Z Z Z Z Z Z Z Z CS (by simp only [List.length_nil];omega) Z Z Z Z) ?_ | refine G (Kp (([]:List Int)) (l) Z Z Z Z Z Z (fun _=>rfl) CS (by simp only [List.length_nil];omega) Z Z Z Z) ?_
  refine Zc2 (emb:=AF) 7 20 ([]++l) Z Z Z Z Z Z Z (AD Z Z ?_);skip;refine AI (Af ?_);exact ⟨_,[],[],Ae rfl,rfl,rfl,rfl,rfl⟩
theorem clone_p (i:AU) (g1:i.po.length≤1000000) (g2:i.pa.length≤1000000) (g3:i.af.length≤1000000):AT Tryz.prog 43 [.d (BC i)] (BC i):=by
 refine B6 Tryz.func43 Z Z Tryz.ntmps43 Z Z Z fun F hF=>(AG (AJ (G (CV 1 Z Z Z Z Z Z Z) (G (DT 2 FI Z Z Z Z) (AI (AG (Gs [[],[0],[0,1],[],[3],[0,1,2,3,4],[],[6],[0,1,2,3,4,5,6,7],[0,1,2,3,4,6,7],[0,1,2,3,4,5,6,7,8,9],[0,1,2,3,4,5,6,7,8,9,10],[0,1,2,3,4,5,6,7,8,9,10,11],[0,1,2,3,4,5,6,7,8,9,10,11,12],[0,1,2,3,4,5,6,7,8,9,10,11,12,13]] BF rfl (IK ?_))))))))
 first | refine AE [1] [] Z Z (fun _=>AB (AO rfl Df Z Z Z)) ?_ | refine AH [1] Z Z (fun _=>AB (AO rfl Df Z Z Z)) ?_ | refine AE [1] [] Z Z (fun _=>AB (AQ rfl Df Z Z Z)) ?_ | refine AH [1] Z Z (fun _=>AB (AQ rfl Df Z Z Z)) ?_ | refine AE [1] [] Z Z (fun _=>AB (AR rfl Df Z Z Z)) ?_ | refine AH [1] Z Z (fun _=>AB (AR rfl Df Z Z Z)) ?_ | refine AE [1] [] Z Z (fun _=>AB (AP rfl Df Z Z Z)) ?_ | refine AH [1] Z Z (fun _=>AB (AP rfl Df Z Z Z)) ?_ | refine AE [1] [] Z Z (fun _=>AB (AN rfl Df Z Z Z)) ?_ | refine AH [1] Z Z (fun _=>AB (AN rfl Df Z Z Z)) ?_
 first | refine AE [3] [1] Z Z (fun _=>AB (A0 Z Z F8 rfl)) ?_ | refine AE [3] [1] Z Z (fun _=>AB (AX Z Z Z F8 rfl)) ?_ | refine AE [3] [1] Z Z (fun _=>AB (AZ Z Z (rfl) rfl F8 rfl)) ?_
 first | refine AE [4] [] Z Z (fun _=>AB (BO (R0 i.po g1) Z Z)) ?_ | refine AH [4] Z Z (fun _=>AB (BO (R0 i.po g1) Z Z)) ?_
 first | refine AE [1] [] Z Z (fun _=>AB (AO rfl FN Z Z Z)) ?_ | refine AH [1] Z Z (fun _=>AB (AO rfl FN Z Z Z)) ?_ | refine AE [1] [] Z Z (fun _=>AB (AQ rfl FN Z Z Z)) ?_ | refine AH [1] Z Z (fun _=>AB (AQ rfl FN Z Z Z)) ?_ | refine AE [1] [] Z Z (fun _=>AB (AR rfl FN Z Z Z)) ?_ | refine AH [1] Z Z (fun _=>AB (AR rfl FN Z Z Z)) ?_ | refine AE [1] [] Z Z (fun _=>AB (AP rfl FN Z Z Z)) ?_ | refine AH [1] Z Z (fun _=>AB (AP rfl FN Z Z Z)) ?_ | refine AE [1] [] Z Z (fun _=>AB (AN rfl FN Z Z Z)) ?_ | refine AH [1] Z Z (fun _=>AB (AN rfl FN Z Z Z)) ?_
 first | refine AE [6] [1] Z Z (fun _=>AB (A0 Z Z Gn rfl)) ?_ | refine AE [6] [1] Z Z (fun _=>AB (AX Z Z Z Gn rfl)) ?_ | refine AE [6] [1] Z Z (fun _=>AB (AZ Z Z (rfl) rfl Gn rfl)) ?_
 first | refine AE [7] [] Z Z (fun _=>AB (BO (RZ i.pa g2) Z Z)) ?_ | refine AH [7] Z Z (fun _=>AB (BO (RZ i.pa g2) Z Z)) ?_
 first | refine AE [1] [] Z Z (fun _=>AB (AO rfl Ff Z Z Z)) ?_ | refine AH [1] Z Z (fun _=>AB (AO rfl Ff Z Z Z)) ?_ | refine AE [1] [] Z Z (fun _=>AB (AQ rfl Ff Z Z Z)) ?_ | refine AH [1] Z Z (fun _=>AB (AQ rfl Ff Z Z Z)) ?_ | refine AE [1] [] Z Z (fun _=>AB (AR rfl Ff Z Z Z)) ?_ | refine AH [1] Z Z (fun _=>AB (AR rfl Ff Z Z Z)) ?_ | refine AE [1] [] Z Z (fun _=>AB (AP rfl Ff Z Z Z)) ?_ | refine AH [1] Z Z (fun _=>AB (AP rfl Ff Z Z Z)) ?_ | refine AE [1] [] Z Z (fun _=>AB (AN rfl Ff Z Z Z)) ?_ | refine AH [1] Z Z (fun _=>AB (AN rfl Ff Z Z Z)) ?_
 first | refine AE [9] [1] Z Z (fun _=>AB (A0 Z Z BD rfl)) ?_ | refine AE [9] [1] Z Z (fun _=>AB (AX Z Z Z BD rfl)) ?_ | refine AE [9] [1] Z Z (fun _=>AB (AZ Z Z (rfl) rfl BD rfl)) ?_
 first | refine AE [10] [] Z Z (fun _=>AB (BO (R1 i.af g3) Z Z)) ?_ | refine AH [10] Z Z (fun _=>AB (BO (R1 i.af g3) Z Z)) ?_
 first | refine AE [1] [] Z Z (fun _=>AB (AO rfl Df Z Z Z)) ?_ | refine AH [1] Z Z (fun _=>AB (AO rfl Df Z Z Z)) ?_ | refine AE [1] [] Z Z (fun _=>AB (AQ rfl Df Z Z Z)) ?_ | refine AH [1] Z Z (fun _=>AB (AQ rfl Df Z Z Z)) ?_ | refine AE [1] [] Z Z (fun _=>AB (AR rfl Df Z Z Z)) ?_ | refine AH [1] Z Z (fun _=>AB (AR rfl Df Z Z Z)) ?_ | refine AE [1] [] Z Z (fun _=>AB (AP rfl Df Z Z Z)) ?_ | refine AH [1] Z Z (fun _=>AB (AP rfl Df Z Z Z)) ?_ | refine AE [1] [] Z Z (fun _=>AB (AN rfl Df Z Z Z)) ?_ | refine AH [1] Z Z (fun _=>AB (AN rfl Df Z Z Z)) ?_
 refine Gf 10 Z Z Z (BE 11 Z Z (G (CC Z Z Z Z Z Z Z sz46) (AI ⟨rfl,?_⟩)));refine BE 12 Z Z ?_
 first | refine J (AO rfl FN Z Z Z) ?_ | refine J (AQ rfl FN Z Z Z) ?_ | refine J (AR rfl FN Z Z Z) ?_ | refine J (AP rfl FN Z Z Z) ?_ | refine J (AN rfl FN Z Z Z) ?_
 refine AI ⟨rfl,?_⟩;refine BE 13 Z Z (G (CC Z Z Z Z Z Z Z sz47) (AI ⟨rfl,?_⟩));refine BE 14 Z Z ?_
 first | refine J (AO rfl Ff Z Z Z) ?_ | refine J (AQ rfl Ff Z Z Z) ?_ | refine J (AR rfl Ff Z Z Z) ?_ | refine J (AP rfl Ff Z Z Z) ?_ | refine J (AN rfl Ff Z Z Z) ?_
 refine AI ⟨rfl,?_⟩;refine BE 15 Z Z (G (CC Z Z Z Z Z Z Z sz33) (AI ⟨rfl,?_⟩));refine Ge (AG (AJ ?_))
 first | refine J (At Z Z Ag rfl) ?_ | refine J (Au Z Z Ag Z Z Z) ?_ | refine J (Av Z Z (rfl) rfl Ag rfl) ?_
 refine G (CC Z Z Z Z Z Z Z Cq) (AI (Af ?_));exact ⟨_,[],[],Ae rfl,rfl,rfl,rfl,rfl⟩
theorem Xl {hp:Hp} {f:Nat} {o:AL} (h:hfam hp f=none) (hm:Qe o=true:=by rfl):Cr hp f o=some ((f,[o])::hp):=by simp only [Cr,h,hm]
theorem Q3 {hp:Hp} {f:Nat} {x:List AL}:∀{nm:List Nat},memB f nm=false ->Am ((f,x)::hp) nm=Am hp nm
 | [],_=>rfl
 | g::r,h=>by
  have h1:Nat.beq f g=false:=by
   cases hb:Nat.beq f g with
   | false=>rfl
   | true=>
    have e:=Nat.eq_of_beq_eq_true hb;subst e
    simp [memB] at h
  have h2:memB f r=false:=by
   cases hb:memB f r with
   | false=>rfl
   | true=>simp [memB,hb] at h
  simp only [Am];rw [Q3 h2];simp only [hfam,h1]
theorem Nh (l:List Nat):IE l l=true:=by
 have key:∀(l m:List Nat),(∀x∈l,x∈m) ->IE l m=true:=fun l=>by
  induction l with
  | nil=>intro m _;rfl
  | cons a r ih=>intro m h;simp only [IE,Bool.and_eq_true];exact ⟨En.2 (h a (by simp)),ih m fun x hx=>h x (by simp [hx])⟩
 exact key l l fun x hx=>hx
theorem Rm {α β:Type} {step:β ->α ->β×Bool} {b:β} {x:α} {r:List α}:Bj step b (x::r)=if (step b x).2=true then Bj step (step b x).1 r else (step b x).1:=by
 simp only [Bj]
 generalize step b x=y
 obtain ⟨y1,y2⟩:=y
 cases y2<;>rfl
def encI (x:AU):List AV:=[.d (BC x)]
section
variable {β:Type}
theorem seqV_c (its:List AU) (hits:its.length≤1000000) (l:Nat) (H:β ->Hp) (N:List Nat) (step:β ->AU ->β×Bool) (st0:β) (hN:∀st,hpN (H st)=N) (hI:∀st,DI N (H st)=true) (hP:∀st,Am (H st) N=some (H st))
  (hk:∀st,A4 990 (H st)=some (H st)) (hz:∀st,hfam (H st) 990=none) (hm:memB 990 N=false)
  (hfe:C4 Tryz.prog l encI H step st0 its):
  A6 Tryz.prog 212 [.d (.raw (CA l)),.d (.ptr (.sl none (its.map BC)))] (H st0) fun r H'=>r= .tup []∧H'=H (Bj step st0 its):=by
 refine B6 Tryz.func212 Z Z Tryz.ntmps212 Z Z Z fun F hF=>(AG (AJ ?_))
 first | refine J (A0 Z Z CU rfl) ?_ | refine J (AX Z Z Z CU rfl) ?_ | refine J (AZ Z Z (rfl) rfl CU rfl) ?_
 first | refine J (Co rfl Tryz.underlying29 rfl) ?_ | refine J (C1 Z Z Tryz.underlying29 rfl) ?_ | refine J (Cp rfl Tryz.underlying29 rfl) ?_ | refine J (Cn rfl Tryz.underlying29 rfl) ?_ | refine J (Ca rfl Tryz.underlying29 rfl) ?_ | refine J (Ck rfl Tryz.underlying29 rfl) ?_
 refine AC Z Z (AI (Aw (EK (α:=Nat×β) (fun p=>⟨16,[(0,.d (.raw (CA l))),(5,(.d (.sl none (its.map BC)))),(6,(.d (AF (its.length:Int)))),(7,(.d (AF (p.1:Int))))],H p.2⟩) (fun p=>p.1≤its.length∧C4 Tryz.prog l encI H step p.2 (its.drop p.1)∧Bj step p.2 (its.drop p.1)=Bj step st0 its) (fun p=>its.length - p.1) ((0,st0)) (⟨Nat.zero_le _,hfe,rfl⟩) (UX ⟨rfl,rfl,rfl,rfl,trivial⟩) ?_)));rintro ⟨k,st⟩ ⟨hk0,hfd,hfin⟩;dsimp only at hk0 hfd hfin⊢;refine AG (AJ ?_)
 first | refine J (Cc Z Z Z) ?_ | refine J (Cb Z Z Z) ?_
 refine AI (AG ?_)
 first | refine BP rfl (fun h8=>?_) (fun h8=>?_) | refine BK rfl (fun h8=>?_) (fun h8=>?_)
 ·have hk1:k<its.length:=EF h8;refine An (AG (Aw (AG (AJ ?_))));have hA:its.drop k=its[k]::its.drop (k+1):=List.drop_eq_getElem_cons hk1;rw [hA] at hfd
  first | refine J (Ch (k) Z Z (rfl) (A3 hk1) Tryz.underlying29 rfl Cq rfl) ?_ | refine J (Cj (k) Z Z (rfl) (A3 hk1) rfl Tryz.underlying29 Cq rfl) ?_
  first | refine J (At Z Z Ag rfl) ?_ | refine J (Au Z Z Ag Z Z Z) ?_ | refine J (Av Z Z (rfl) rfl Ag rfl) ?_
  refine G (DT 990 FI rfl (hk _) (Xl (hz _)) rfl) (G (CC Z Z Z Z Z Z Z Cq) (AI (AG (AJ (AC Z Z ?_)))))
  first | refine J (At Z Z Ag rfl) ?_ | refine J (Au Z Z Ag Z Z Z) ?_ | refine J (Av Z Z (rfl) rfl Ag rfl) ?_
  refine S9 [0,5,6,7,11,12] rfl (o_only N (hF.trans (hN st0)) (Nh N) ((Q3 hm).trans (hP _)) (Qc hfd.1 Z Z (by rw [hN,hN]) (by rw [hN];exact hI _) Z Z ?_))
  first | refine J (G9 Z Z) ?_ | refine J (GJ Z Z) ?_
  refine AI ?_
  first | refine BP rfl (fun h14=>?_) (fun h14=>?_) | refine BK rfl (fun h14=>?_) (fun h14=>?_)
  ·have hgo:(step st its[k]).2=false:=by simpa using h14
   refine Af ?_;exact ⟨_,N,_,Ae rfl,hP _,by rw [←hN st0];exact YY _,rfl,by rw [←hfin,hA,Rm,if_neg (by rw [hgo];decide)]⟩
  ·have hgo:(step st its[k]).2=true:=by simpa using h14
   refine An (AJ (J (By Z Z (Ad (k+1) (by omega)) rfl) (AC Z Z (AI ?_))));exact ⟨(k+1,(step st its[k]).1),⟨by show k+1≤_;omega,hfd.2 hgo,by rw [←hfin,hA,Rm,if_pos hgo]⟩,by show its.length - (k+1)<its.length - k;omega,⟨rfl,rfl,fun _ _=>NK.get (l:=[(0,_),(5,_),(6,_),(7,_)]) ⟨rfl,rfl,rfl,rfl,trivial⟩⟩⟩
 ·refine Ct ?_;exact ⟨_,N,_,Ae rfl,hP _,by rw [←hN st0];exact YY _,rfl,by rw [←hfin,List.drop_of_length_le (by have h:=h8;omega)];rfl⟩
end
theorem SR.freezeB {F:Fr} {s:AS} {ρ:Nat ->Nat ->Value} {act:Act} {w:World} (h:SR F s ρ act w) (t f:Nat) (x:D) {T:TypeId} {cs:List AV} {hp':Hp} (nm:List Nat) {pn:List Nat} (hF:F.pn=pn) (ht:get s.env t=some (.ptr f 0 0)) (hone:hfam s.hp f=some [.blk T cs]) (hcs:cs=x.cells.map .d) (hx1:∀c∈x.cells,c.one=true) (hf:memB f nm=false) (hsub:IE pn nm=true) (hpt:Am s.hp nm=some hp'):SR F ⟨s.n,(t,.d (.ptr x))::s.env,hp'⟩ ρ act w:=by
 have h1:=h.only nm hF hsub hpt;refine ⟨h1.size,h1.defs,fun t' a ha=>?_,h1.heap⟩;rcases KF ha with ⟨rfl,rfl⟩ | ⟨_,ha⟩
 ·have hr:=h.env t _ ht;have ho:hget s.hp f 0=some (.blk T cs):=by simp [hget,hone,gl,isM]
  obtain ⟨b,us,e1,e2,e3,e4,e5⟩:=h.heap.sim f 0 _ ho;show A1 _ _ _ _ (act.tmps.getD t undef)
  generalize act.tmps.getD t undef=v at hr
  cases hr with
  | @ptr _ _ _ b' hb=>
   rw [e1] at hb;injection hb with hb;injection hb with hb;injection hb with hb;subst hb
   have hO:∀b',F.O ρ hp' b' ->F.O ρ s.hp b':=fun b' hb'=>hb'.imp id fun ⟨f',i',o',q1,q2⟩=>by
    obtain ⟨m1,_⟩:=D4 hpt;refine ⟨f',i',o',?_,q2⟩;simp only [hget] at q1⊢
    cases hh:hfam hp' f' with
    | none=>rw [hh] at q1;cases q1
    | some l=>rw [(m1 f' l hh).2];rw [hh] at q1;exact q1
   have hnO:¬F.O ρ hp' b:=fun hb'=>by
    rcases hb' with hb' | ⟨f',i',o',q1,q2⟩
    ·exact h.heap.notOf ⟨f,0,_,ho,by rw [e1];rfl⟩ hb'
    ·obtain ⟨m1,_⟩:=D4 hpt;simp only [hget] at q1
     cases hh:hfam hp' f' with
     | none=>rw [hh] at q1;cases q1
     | some l=>
      have q3:hget s.hp f' i'=some o':=by simp only [hget];rw [(m1 f' l hh).2];rw [hh] at q1;exact q1
      obtain ⟨e1',_⟩:=h.heap.inj f' i' f 0 _ _ b q3 ho q2 (by rw [e1];rfl);have:=En.2 (m1 f' l hh).1;rw [e1',hf] at this;cases this
   have hlen:us.length=x.cells.length:=by rw [e3,hcs,List.length_map]
   refine .d (.ptr (fun j=>us.getD j undef) (h.heap.ltO (.inr ⟨f,0,_,ho,by rw [e1];rfl⟩)) hnO hx1 (fun j c hj=>?_) (fun j c hj=>?_))
   ·have hj':j<us.length:=by rw [hlen];exact (List.getElem?_eq_some_iff.1 hj).1
    rw [Nat.zero_add,cell_of_row w b j us.toArray T (0,0) e2]
    simp [hj']
   ·have hj':j<us.length:=by rw [hlen];exact (List.getElem?_eq_some_iff.1 hj).1
    have hc:=e4 j (.d c) us[j] (by rw [hcs,List.getElem?_map,hj];rfl) (List.getElem?_eq_getElem hj');have hg:us.getD j undef=us[j]:=by simp [hj']
    rw [hg]
    cases hc with
    | d hc=>exact hc.mono (Nat.le_refl _) (fun _ _ _=>rfl) fun b' _=>hO b'
 ·exact h1.env t' a ha
theorem Hq {P:Program} {F:Fr} {Q:Exit ->AS ->Prop} {ops:Array Oper} {l':List Oper} {sn:Nat} {env:List (Nat×AV)} {hp hp':Hp} (t f:Nat) (x:D) {T:TypeId} {cs:List AV} (nm:List Nat) {pn:List Nat} (hF:F.pn=pn) (ht:get env t=some (.ptr f 0 0)) (hone:hfam hp f=some [.blk T cs]) (hcs:cs=x.cells.map .d) (hx1:∀c∈x.cells,c.one=true) (hf:memB f nm=false) (hsub:IE pn nm=true) (hpt:Am hp nm=some hp')
  (h:Ao P F ops l' Q ⟨sn,(t,.d (.ptr x))::env,hp'⟩):Ao P F ops l' Q ⟨sn,env,hp⟩:=fun ρ act w hs=>h ρ act w (hs.freezeB t f x nm hF ht hone hcs hx1 hf hsub hpt)
theorem O9 {P:Program} {F:Fr} {Q:Exit ->AS ->Prop} {c:Code} {sn:Nat} {env:List (Nat×AV)} {hp hp':Hp} (t f:Nat) (x:D) {T:TypeId} {cs:List AV} (nm:List Nat) {pn:List Nat} (hF:F.pn=pn) (ht:get env t=some (.ptr f 0 0)) (hone:hfam hp f=some [.blk T cs]) (hcs:cs=x.cells.map .d) (hx1:∀c∈x.cells,c.one=true) (hf:memB f nm=false) (hsub:IE pn nm=true) (hpt:Am hp nm=some hp')
  (h:Bm P F c Q ⟨sn,(t,.d (.ptr x))::env,hp'⟩):Bm P F c Q ⟨sn,env,hp⟩:=fun ρ act w hs=>h ρ act w (hs.freezeB t f x nm hF ht hone hcs hx1 hf hsub hpt)
theorem Vy (its:List AU):A6 Tryz.prog 183 [.d (.sl none (its.map BC))] [] fun r H'=>r= .fn 212 [.d (.ptr (.sl none (its.map BC)))]∧H'=[]:=by
 refine B6 Tryz.func183 Z Z Tryz.ntmps183 Z Z Z fun F hF=>(AG (AJ (G (CV 1 Z Z Z Z Z Z Z) ?_)));refine AD Z Z (AI (AG (AJ (Hq 1 1 (.sl none (its.map BC)) [] hF Z Z Z (by intro c hc;simp [D.cells] at hc;subst hc;rfl) Z Z Z (J (DD Z Z) (AD Z Z (AI (Af ?_))))))));exact ⟨_,[],[],Ae rfl,rfl,rfl,rfl,rfl⟩
abbrev hV (q:List AU):Hp:=[(920,[.rowD 49 6 (q.map BC)]),(1,[.blk 29 [.own 920 0 q.length]])]
def TZ (q:List AU) (x:AU):List AU×Bool:=(q++ [x],true)
theorem RM:∀(l q:List AU),Bj TZ q l=q++l
 | [],q=>by simp [Bj]
 | x::l,q=>by rw [Rm];show (if true=true then Bj TZ (q++ [x]) l else _)=_;rw [if_pos rfl,RM l];simp
theorem O1 {P:Program} {l:Nat} {H:List AU ->Hp} {n:Nat} (hY:∀q x,q.length<n ->Dh P l (encI x) (H q) fun v H'=>v= .d (.raw (.bool true))∧H'=H (q++ [x])):∀(xs q:List AU),q.length+xs.length≤n ->C4 P l encI H TZ q xs
 | [],_,_=>trivial
 | x::xs,q,h=>⟨hY q x (by simp at h;omega),fun _=>O1 hY xs (q++ [x]) (by simp at h⊢;omega)⟩
theorem YL (its:List AU) (hits:its.length≤1000000):A6 Tryz.prog 239 [.d (.sl (some true) []),.fn 212 [.d (.ptr (.sl none (its.map BC)))]] [] fun r H'=>r= .own 920 0 its.length∧H'=[(920,[.rowD 49 6 (its.map BC)])]:=by
 refine GE Tryz.func239 Z Z Tryz.ntmps239 Z Z Z fun F hF hFl=>(AG (AJ (G (CV 1 Z Z Z Z Z Z Z) ?_)));refine AD Z Z (AI (AG (AG (Cs 1 0 0 920 LV Z Z Z Z Z Z Z (AJ (AC Z Z (AI (Aw ?_))))))));refine NF [2,6] rfl ?_;refine KE (γ:=Unit) hFl 900 Z Z Z Z Z [1,920] (CHr:=hV []) (fun _=>True) (fun _=>hV its) (fun _=> .ready) (fun _=>none) ⟨rfl,rfl,trivial⟩ Z Z Z (fun _=>rfl) (fun _=>rfl) rfl (fun _ _=>by simp) (fun _ _=>⟨rfl,rfl⟩) [920,1] hF Z Z (fun _ _=>rfl) (fun l A B hA hB=>?_) (fun _ _=>?_)
 ·refine (seqV_c its hits l (fun q:List AU=>(900,[.loop ⟨l,13,[(2,.ptr 1 0 0),(6,.fn 212 [.d (.ptr (.sl none (its.map BC)))])],.ready,none, #[7],A,B⟩])::hV q) [900,920,1] TZ [] (fun _=>rfl) (fun _=>rfl) (fun _=>rfl) (fun _=>rfl) (fun _=>rfl) rfl ?_).mono (fun r H' ⟨e1,e2⟩=>⟨e1,(),trivial,by rw [e2,RM];rfl⟩);refine O1 (n:=its.length) (fun q x hq=>?_) its [] (by simp);refine Gv (lf:=900) Z Z Z Z fun F hF hr=>?_;show Bm _ _ A _ _;rw [hA];refine AJ (G (DT 2 FI Z Z Z Z) (G (CC Z Z Z Z Z Z Z Cq) (AI (⟨rfl,_,_,rfl,rfl,rfl,rfl,?_⟩))));show Bm _ _ B _ _;rw [hB];refine Aw (AJ ?_)
  first | refine J (A0 Z Z CU rfl) ?_ | refine J (AX Z Z Z CU rfl) ?_ | refine J (AZ Z Z (rfl) rfl CU rfl) ?_
  first | refine J (At Z Z Ag rfl) ?_ | refine J (Au Z Z Ag Z Z Z) ?_ | refine J (Av Z Z (rfl) rfl Ag rfl) ?_
  refine G (Fg 30 LV Z Z Z Z Z Z Z Z) ?_
  first | refine G (IX (q) ([x]) Z Z Z Z Z Z Z Z LV (by simp only [List.length_singleton];omega) Z Z Z Z) ?_ | refine G (Kp (q) ([x]) Z Z Z Z Z Z (fun _=>rfl) LV (by simp only [List.length_singleton];omega) Z Z Z Z) ?_
  refine G (CC Z Z Z Z Z Z Z sz29) (AI ?_);exact ⟨none,_,_,[900,920,1],_,rfl,rfl,rfl,rfl,rfl,rfl,rfl,rfl⟩
 ·refine AG (AJ ?_)
  first | refine J (A0 Z Z CU rfl) ?_ | refine J (AX Z Z Z CU rfl) ?_ | refine J (AZ Z Z (rfl) rfl CU rfl) ?_
  refine AD Z Z (AI (Af ?_));exact ⟨_,[920],_,Ae rfl,rfl,rfl,rfl,rfl⟩
theorem insO_perm (l:List AU) (x:AU):(NY l x).Perm (x::l):=by
 induction l with
 | nil=>exact List.Perm.refl _
 | cons a l ih=>
  simp only [NY];split
  ·exact List.Perm.refl _
  ·exact (List.Perm.cons a ih).trans (List.Perm.swap x a l)
theorem RB {l:List AU} (h:l.Pairwise fun a b=>¬If b a<0) (x:AU):(NY l x).Pairwise fun a b=>¬If b a<0:=by
 induction l with
 | nil=>simp [NY]
 | cons a l ih=>
  rw [List.pairwise_cons] at h;simp only [NY]
  split
  ·rename_i hall
   exact List.pairwise_cons.2 ⟨fun y hy=>by have h1:=hall y hy;have h2:=Dl.anti x y;omega,List.pairwise_cons.2 h⟩
  ·rename_i hn
   refine List.pairwise_cons.2 ⟨fun y hy=>?_,ih h.2⟩;rcases List.mem_cons.1 ((insO_perm l x).mem_iff.1 hy) with rfl | hy
   ·intro hlt;refine hn fun z hz=>?_;rcases List.mem_cons.1 hz with rfl | hz
    ·exact hlt
    ·have h1:=h.1 z hz;have h2:=Dl.anti a z
     by_cases e:If a z=0
     ·have h3:=Dl.eqv a z y e;have h4:=Dl.anti a y;have h5:=Dl.anti z y;omega
     ·exact Dl.trans _ _ _ hlt (by omega)
   ·exact h.1 y hy
theorem TD (l:List AU):(sortO l).Perm l:=by
 induction l using Y0 with
 | h0=>exact List.Perm.refl _
 | h1 l x ih=>
  rw [I6];exact (insO_perm _ x).trans ((List.Perm.cons x ih).trans (List.perm_append_comm (l₁:=[x]) (l₂:=l)))
theorem PA (l:List AU):(sortO l).Pairwise fun a b=>¬If b a<0:=by
 induction l using Y0 with
 | h0=>exact List.Pairwise.nil
 | h1 l x ih=>rw [I6];exact RB ih x
theorem VB {a b:AU} (h:If a b=0):a.sq=b.sq:=by
 unfold If at h;simp only [Bi] at h
 split at h
 ·split at h
  ·rename_i h2;exact IA.1 h2
  ·contradiction
 ·contradiction
theorem Ni {l:List AU} (hn:(l.map AU.sq).Nodup) (h:l.Pairwise fun a b=>¬If b a<0):l.Pairwise fun a b=>If a b<0:=by
 rw [List.Nodup,List.pairwise_map] at hn;refine (h.and hn).imp fun {a b} ⟨g1,g2⟩=>?_;have h1:=Dl.anti a b;have h2:If a b≠0:=fun e=>g2 (VB e);omega
theorem ord_one {its ys:List AU} (hn:(its.map AU.sq).Nodup) (h1:ys.Perm its) (h2:ys.Pairwise fun a b=>¬If b a<0):ys=sortO its:=
 DY (R:=fun a b=>If a b<0) (fun x=>by rw [Dl.refl];omega) (fun x y z=>Dl.trans x y z) (Ni ((h1.map _).nodup_iff.2 hn) h2) (Ni (((TD its).map _).nodup_iff.2 hn) (PA its)) fun x=>by rw [h1.mem_iff,(TD its).mem_iff]
theorem Xc (x:AU):∃cs,BC x= .agg cs:=⟨_,rfl⟩
abbrev seqA (its:List AU):AV:= .fn 212 [.d (.ptr (.sl none (its.map BC)))]
theorem V8 (its:List AU) (hits:its.length≤1000000):A6 Tryz.prog 211 [seqA its] [] fun r H'=>r= .own 920 0 its.length∧H'=[(920,[.rowD 49 6 (its.map BC)])]:=by
 refine B6 Tryz.func211 Z Z Tryz.ntmps211 Z Z Z fun F hF=>(AG (AJ ?_));refine AD Z Z (AI (AG (AJ (AC Z Z (G (IL (YL its hits) rfl [920] ⟨rfl,trivial⟩ Z Z Z Z Z Z Z Z Z) (AD Z Z (AI (Af ?_))))))));exact ⟨_,[920],_,Ae rfl,rfl,rfl,rfl,rfl⟩
theorem Uf (its:List AU) (hits:its.length≤1000000) (hn:(its.map AU.sq).Nodup):AT Tryz.prog 182 [seqA its,.d (.raw (.func (.func 184) #[] #[]))] (.sl none ((sortO its).map BC)):=by
 refine B6 Tryz.func182 Z Z Tryz.ntmps182 Z Z Z fun F hF=>(AG (AJ (AD Z Z (AI (AG ?_)))));refine AJ (AC Z Z (G (IL (V8 its hits) rfl [920] ⟨rfl,trivial⟩ Z Z Z Z Z Z Z Z Z) (AD Z Z (AI (AG (AJ (AC Z Z (AC Z Z ?_))))))));refine G (Ov laysI (k:=6) (by decide) Tryz.isAgg49 Tryz.sizeOf49 Tryz.func184 Z Z Xc If Dl.swo its (sortO its) (by omega) (fun x _ y _=>order_p x y) (fun ys g1 g2=>ord_one hn g1 g2) Z Z Z P8 Z Z Z Z Z) (AI (AG (Vn (emb:=BC) 5 920 (sortO its) Z Z Z (Nk its).symm Z Z Z (AJ (AC Z Z (AD Z Z (AI (Af ?_))))))));exact ⟨_,[],[],Ae rfl,rfl,rfl,rfl,rfl⟩
theorem Qz {l:List AU} (h:GZ l=0):(l.map AU.sq).Nodup:=by
 have h0:=YU.1 h;rw [List.Nodup,List.pairwise_map,List.pairwise_iff_getElem];intro i j hi hj hij e;have:=h0 j (List.mem_range.2 hj);unfold P3 at this;rw [Bh itm0 hj] at this
 split at this
 ·contradiction
 ·split at this
  ·cases this
  ·rename_i hn
   exact hn (.inr (MY hj hij e))
theorem N8 {p:Prb} (h:Ab p=0):EH p.ro=0∧GZ p.it=0∧Pj p.it=0:=by
 unfold Ab at h
 split at h; · cases h
 have h3:=Jm h;exact ⟨h3 _ (by simp),h3 _ (by simp),h3 _ (by simp)⟩
def ordP (p:Prb):List AU:=if Ab p=0 then sortO p.it else []
theorem KZ (p:Prb) (hb:Cu p):AT Tryz.prog 140 [.d (CT p)] (.sl none ((ordP p).map BC)):=by
 have hck:=HH p hb;obtain ⟨_,g2,_⟩:=hb
 by_cases hE:Ab p=0
 ·rw [hE] at hck;have hR:ordP p=sortO p.it:=if_pos hE;rw [hR];refine B6 Tryz.func140 Z Z Tryz.ntmps140 Z Z Z fun F hF=>(AG (AJ (G (CV 1 Z Z Z Z Z Z Z) (AD Z Z (AI (AG (AG (AJ ?_))))))))
  first | refine J (At Z Z A2 rfl) ?_ | refine J (Au Z Z A2 Z Z Z) ?_ | refine J (Av Z Z (rfl) rfl A2 rfl) ?_
  refine J (BO (hck) Z Z) ?_
  first | refine J (Ec Z Z Z) ?_ | refine J (Eb Z Z Z) ?_ | refine J (EV Z Z Z) ?_ | refine J (E8 Tryz.underlying34 Z Z Z) ?_ | refine J (Ea Tryz.underlying34 Z Z Z) ?_ | refine J (st_neqN Tryz.underlying34 Z Z) ?_ | refine J (E9 Tryz.underlying34 Z Z Z) ?_ | refine J (st_neqFN Tryz.underlying34 Z Z) ?_
  refine AI (F4 rfl ((by decide)) (An (AG (AJ ?_))))
  first | refine J (AO rfl DK Z Z Z) ?_ | refine J (AQ rfl DK Z Z Z) ?_ | refine J (AR rfl DK Z Z Z) ?_ | refine J (AP rfl DK Z Z Z) ?_ | refine J (AN rfl DK Z Z Z) ?_
  first | refine J (A0 Z Z CU rfl) ?_ | refine J (AX Z Z Z CU rfl) ?_ | refine J (AZ Z Z (rfl) rfl CU rfl) ?_
  refine G (IL (Vy p.it) rfl [] trivial Z Z Z Z Z Z Z Z Z) (J (BO (Uf p.it (by omega) (Qz (N8 hE).2.1)) Z Z) (AD Z Z (AI (Af ?_))));exact ⟨_,[],[],Ae rfl,rfl,rfl,rfl,rfl⟩
 ·have hR:ordP p=[]:=if_neg hE;rw [hR];refine B6 Tryz.func140 Z Z Tryz.ntmps140 Z Z Z fun F hF=>?_;refine AG (AJ (G (CV 1 Z Z Z Z Z Z Z) (AD Z Z (Ro 2 rfl (AI (AG (AG (AJ ?_))))))))
  first | refine J (At Z Z A2 rfl) ?_ | refine J (Au Z Z A2 Z Z Z) ?_ | refine J (Av Z Z (rfl) rfl A2 rfl) ?_
  refine J (BO (hck) Z Z) ?_
  first | refine J (Ec Z Z Z) ?_ | refine J (Eb Z Z Z) ?_ | refine J (EV Z Z Z) ?_ | refine J (E8 Tryz.underlying34 Z Z Z) ?_ | refine J (Ea Tryz.underlying34 Z Z Z) ?_ | refine J (st_neqN Tryz.underlying34 Z Z) ?_ | refine J (E9 Tryz.underlying34 Z Z Z) ?_ | refine J (st_neqFN Tryz.underlying34 Z Z) ?_
  refine AI (EL rfl ((by simpa using hE)) (AG (AJ (AD Z Z (Ro 2 rfl (AI (Af ?_)))))));exact ⟨_,[],[],Ae rfl,rfl,rfl,rfl,rfl⟩
end Go.Proofs.YtnkkaeblokdifaaGreat
