/- Layer 28: the example of the document; the reference's order. -/
import Derived.Test.YtnkkaeblokdifaaGreatMg16
namespace Go.Proofs.YtnkkaeblokdifaaGreat
open Go.RowKit
set_option maxRecDepth 100000
def accA:PH:=⟨[65],0,[67,65,83,72]⟩
def accB:PH:=⟨[66],0,[67,65,83,72]⟩
def LQ:AT:=⟨1,0,1,[⟨accA,-5⟩,⟨accB,5⟩],[⟨[65],[66],5⟩],[]⟩
theorem Ql:BV LQ=0:=by decide
theorem VT:dltS LQ=[(Gv ⟨accA,-5⟩,-5),(Gv ⟨accB,5⟩,5),(DQ [65] [66],-5),(DQ [66] [65],5),(EO [65],-5),(EO [66],5)]:=by decide
theorem Sq:AU Tryz.prog 111 [.d (AH 1),.d (AH 5)] (.agg [AH 1,AH 0,AH 1,.sl none (LQ.po.map Cm),.sl none (LQ.pa.map HC),.sl (some true) []]):=by
 refine B2 Tryz.func111 Z Z Tryz.ntmps111 Z Z Z fun F hF=>(AF (AJ (U (DO 1 FG Z Z Z Z) (AG (AF (AJ (J (DH N8 Qj Z Z Z) (J (DH N8 Qj Z Z Z) ?_))))))));refine U (DO 2 N8 Z Z Z Z) (U (DO 3 N8 Z Z Z Z) (U (CF Z Z Z Z Z Z Z sz51) (U (CF Z Z Z Z Z Z Z sz51) (AG (AF (AJ (AC Z Z (AC Z Z ?_))))))))
 first | refine J (Av Z Z Gz rfl) ?_ | refine J (Aw Z Z Gz Z Z Z) ?_ | refine J (Ax Z Z (rfl) rfl Gz rfl) ?_
 refine AC Z Z (J (Wc rfl (show IntKind.i64.wrap (0 - 5)= -5 from by decide) rfl) (J (DH J1 OT Z Z Z) ?_))
 first | refine J (Av Z Z Gz rfl) ?_ | refine J (Aw Z Z Gz Z Z Z) ?_ | refine J (Ax Z Z (rfl) rfl Gz rfl) ?_
 refine AC Z Z (J (DH J1 OT Z Z Z) (U (Fq 4 PT Z Z Z Z Z Z Z Z) ?_));refine Zdd (emb:=Cm) 18 4 LQ.po Z Z Z Z Z Z Z (AC Z Z (J (DH WT pl135 Z Z Z) (U (Fq 5 Q6 Z Z Z Z Z Z Z Z) (Zdd (emb:=HC) 21 5 LQ.pa Z Z Z Z Z Z Z (J (DH FG XP Z Z Z) (U (CF Z Z Z Z Z Z Z C6) (AG (Ae ?_))))))));exact ⟨_,[],[],Aa rfl,rfl,rfl,rfl,rfl⟩
theorem VR:AU Tryz.prog 111 [.d (AH 1),.d (AH 5)] (BH LQ):=
 Sq.weak fun w O v h=>h.aggMono rfl (by simp [D.one]) fun i c c' hc hc' v hv=>by
  match i,hc,hc' with
  | 0,hc,hc'=>injection hc with hc;injection hc' with hc';subst hc hc';exact hv
  | 1,hc,hc'=>injection hc with hc;injection hc' with hc';subst hc hc';exact hv
  | 2,hc,hc'=>injection hc with hc;injection hc' with hc';subst hc hc';exact hv
  | 3,hc,hc'=>injection hc with hc;injection hc' with hc';subst hc hc';exact hv
  | 4,hc,hc'=>injection hc with hc;injection hc' with hc';subst hc hc';exact hv
  | 5,hc,hc'=>injection hc with hc;injection hc' with hc';subst hc hc';exact hv.anyNil
theorem known_p:AU Tryz.prog 56 [] (.raw (.bool true)):=by
 have hd:=KN LQ (by decide) (by decide) (by decide);rw [Ql,VT] at hd;refine B2 Tryz.func56 Z Z Tryz.ntmps56 Z Z Z fun F hF=>?_;refine AF (AJ (AD Z Z (AG (AF (AJ (J (B1 (VR) Z Z) (J (B1 (hd) Z Z) (AC Z Z ?_))))))))
 first | refine J (B6 Z Z Z) ?_ | refine J (B7 Z Z Z) ?_
 first | refine J (B6 Z Z Z) ?_ | refine J (B7 Z Z Z) ?_
 refine AD Z Z (AD Z Z (AG (AF (AJ (AC Z Z ?_)))))
 first | refine J (Ea Z Z Z) ?_ | refine J (E9 Z Z Z) ?_ | refine J (EV Z Z Z) ?_ | refine J (E4 Tryz.underlying34 Z Z Z) ?_ | refine J (E7 Tryz.underlying34 Z Z Z) ?_ | refine J (E6 Tryz.underlying34 Z Z) ?_ | refine J (E5 Tryz.underlying34 Z Z Z) ?_ | refine J (E8 Tryz.underlying34 Z Z) ?_
 refine AC Z Z (NZ 10 rfl (rfl) (A9 Z Z Z (AC Z Z (A9 Z Z Z ?_))))
 first | refine J (Cz rfl Tryz.underlying44 rfl) ?_ | refine J (C9 Z Z Tryz.underlying44 rfl) ?_ | refine J (DB rfl Tryz.underlying44 rfl) ?_ | refine J (Cy rfl Tryz.underlying44 rfl) ?_ | refine J (Cr rfl Tryz.underlying44 rfl) ?_ | refine J (Cw rfl Tryz.underlying44 rfl) ?_
 refine A9 Z Z Z ?_
 first | refine J (Ea Z Z Z) ?_ | refine J (E9 Z Z Z) ?_ | refine J (EV Z Z Z) ?_ | refine J (E4 Tryz.underlying3 Z Z Z) ?_ | refine J (E7 Tryz.underlying3 Z Z Z) ?_ | refine J (E6 Tryz.underlying3 Z Z) ?_ | refine J (E5 Tryz.underlying3 Z Z Z) ?_ | refine J (E8 Tryz.underlying3 Z Z) ?_
 refine J (DX Z Z Z Z) (AC Z Z (NZ 15 rfl (rfl) (A9 Z Z Z (AC Z Z (A9 Z Z Z ?_)))))
 first | refine J (CT (0) Z Z (rfl) (rfl) Tryz.underlying44 rfl Eo rfl) ?_ | refine J (CU (0) Z Z (rfl) (rfl) rfl Tryz.underlying44 Eo rfl) ?_
 refine A9 Z Z Z ?_
 first | refine J (AM rfl EW Z Z Z) ?_ | refine J (AO rfl EW Z Z Z) ?_ | refine J (AP rfl EW Z Z Z) ?_ | refine J (AN rfl EW Z Z Z) ?_ | refine J (AL rfl EW Z Z Z) ?_
 refine A9 Z Z Z ?_
 first | refine J (AY Z Z BI rfl) ?_ | refine J (AW Z Z Z BI rfl) ?_ | refine J (AX Z Z (rfl) rfl BI rfl) ?_
 refine A9 Z Z Z ?_
 first | refine J (Ea Z Z Z) ?_ | refine J (E9 Z Z Z) ?_ | refine J (EV Z Z Z) ?_ | refine J (E4 Tryz.underlying2 Z Z Z) ?_ | refine J (E7 Tryz.underlying2 Z Z Z) ?_ | refine J (E6 Tryz.underlying2 Z Z) ?_ | refine J (E5 Tryz.underlying2 Z Z Z) ?_ | refine J (E8 Tryz.underlying2 Z Z) ?_
 refine J (DX Z Z Z Z) (AC Z Z (NZ 22 rfl (rfl) (A9 Z Z Z (AC Z Z (A9 Z Z Z ?_)))))
 first | refine J (CT (1) Z Z (rfl) (rfl) Tryz.underlying44 rfl Eo rfl) ?_ | refine J (CU (1) Z Z (rfl) (rfl) rfl Tryz.underlying44 Eo rfl) ?_
 refine A9 Z Z Z ?_
 first | refine J (AM rfl EW Z Z Z) ?_ | refine J (AO rfl EW Z Z Z) ?_ | refine J (AP rfl EW Z Z Z) ?_ | refine J (AN rfl EW Z Z Z) ?_ | refine J (AL rfl EW Z Z Z) ?_
 refine A9 Z Z Z ?_
 first | refine J (AY Z Z BI rfl) ?_ | refine J (AW Z Z Z BI rfl) ?_ | refine J (AX Z Z (rfl) rfl BI rfl) ?_
 refine A9 Z Z Z ?_
 first | refine J (Ea Z Z Z) ?_ | refine J (E9 Z Z Z) ?_ | refine J (EV Z Z Z) ?_ | refine J (E4 Tryz.underlying2 Z Z Z) ?_ | refine J (E7 Tryz.underlying2 Z Z Z) ?_ | refine J (E6 Tryz.underlying2 Z Z) ?_ | refine J (E5 Tryz.underlying2 Z Z Z) ?_ | refine J (E8 Tryz.underlying2 Z Z) ?_
 refine J (DX Z Z Z Z) (AC Z Z (NZ 29 rfl (rfl) (A9 Z Z Z (AC Z Z (A9 Z Z Z ?_)))))
 first | refine J (CT (2) Z Z (rfl) (rfl) Tryz.underlying44 rfl Eo rfl) ?_ | refine J (CU (2) Z Z (rfl) (rfl) rfl Tryz.underlying44 Eo rfl) ?_
 refine A9 Z Z Z ?_
 first | refine J (AM rfl EW Z Z Z) ?_ | refine J (AO rfl EW Z Z Z) ?_ | refine J (AP rfl EW Z Z Z) ?_ | refine J (AN rfl EW Z Z Z) ?_ | refine J (AL rfl EW Z Z Z) ?_
 refine A9 Z Z Z ?_
 first | refine J (AY Z Z BI rfl) ?_ | refine J (AW Z Z Z BI rfl) ?_ | refine J (AX Z Z (rfl) rfl BI rfl) ?_
 refine A9 Z Z Z ?_
 first | refine J (Ea Z Z Z) ?_ | refine J (E9 Z Z Z) ?_ | refine J (EV Z Z Z) ?_ | refine J (E4 Tryz.underlying2 Z Z Z) ?_ | refine J (E7 Tryz.underlying2 Z Z Z) ?_ | refine J (E6 Tryz.underlying2 Z Z) ?_ | refine J (E5 Tryz.underlying2 Z Z Z) ?_ | refine J (E8 Tryz.underlying2 Z Z) ?_
 refine J (DX Z Z Z Z) (AC Z Z (NZ 36 rfl (rfl) (A9 Z Z Z (AC Z Z (A9 Z Z Z ?_)))))
 first | refine J (CT (3) Z Z (rfl) (rfl) Tryz.underlying44 rfl Eo rfl) ?_ | refine J (CU (3) Z Z (rfl) (rfl) rfl Tryz.underlying44 Eo rfl) ?_
 refine A9 Z Z Z ?_
 first | refine J (AM rfl EW Z Z Z) ?_ | refine J (AO rfl EW Z Z Z) ?_ | refine J (AP rfl EW Z Z Z) ?_ | refine J (AN rfl EW Z Z Z) ?_ | refine J (AL rfl EW Z Z Z) ?_
 refine A9 Z Z Z ?_
 first | refine J (AY Z Z BI rfl) ?_ | refine J (AW Z Z Z BI rfl) ?_ | refine J (AX Z Z (rfl) rfl BI rfl) ?_
 refine A9 Z Z Z ?_
 first | refine J (Ea Z Z Z) ?_ | refine J (E9 Z Z Z) ?_ | refine J (EV Z Z Z) ?_ | refine J (E4 Tryz.underlying2 Z Z Z) ?_ | refine J (E7 Tryz.underlying2 Z Z Z) ?_ | refine J (E6 Tryz.underlying2 Z Z) ?_ | refine J (E5 Tryz.underlying2 Z Z Z) ?_ | refine J (E8 Tryz.underlying2 Z Z) ?_
 refine J (DX Z Z Z Z) (AC Z Z (NZ 43 rfl (rfl) (A9 Z Z Z (AC Z Z (A9 Z Z Z ?_)))))
 first | refine J (CT (4) Z Z (rfl) (rfl) Tryz.underlying44 rfl Eo rfl) ?_ | refine J (CU (4) Z Z (rfl) (rfl) rfl Tryz.underlying44 Eo rfl) ?_
 refine A9 Z Z Z ?_
 first | refine J (AM rfl EW Z Z Z) ?_ | refine J (AO rfl EW Z Z Z) ?_ | refine J (AP rfl EW Z Z Z) ?_ | refine J (AN rfl EW Z Z Z) ?_ | refine J (AL rfl EW Z Z Z) ?_
 refine A9 Z Z Z ?_
 first | refine J (AY Z Z BI rfl) ?_ | refine J (AW Z Z Z BI rfl) ?_ | refine J (AX Z Z (rfl) rfl BI rfl) ?_
 refine A9 Z Z Z ?_
 first | refine J (Ea Z Z Z) ?_ | refine J (E9 Z Z Z) ?_ | refine J (EV Z Z Z) ?_ | refine J (E4 Tryz.underlying2 Z Z Z) ?_ | refine J (E7 Tryz.underlying2 Z Z Z) ?_ | refine J (E6 Tryz.underlying2 Z Z) ?_ | refine J (E5 Tryz.underlying2 Z Z Z) ?_ | refine J (E8 Tryz.underlying2 Z Z) ?_
 refine J (DX Z Z Z Z) (AC Z Z (NZ 50 rfl (rfl) (A9 Z Z Z (AC Z Z (A9 Z Z Z ?_)))))
 first | refine J (CT (5) Z Z (rfl) (rfl) Tryz.underlying44 rfl Eo rfl) ?_ | refine J (CU (5) Z Z (rfl) (rfl) rfl Tryz.underlying44 Eo rfl) ?_
 refine A9 Z Z Z ?_
 first | refine J (AM rfl Oy Z Z Z) ?_ | refine J (AO rfl Oy Z Z Z) ?_ | refine J (AP rfl Oy Z Z Z) ?_ | refine J (AN rfl Oy Z Z Z) ?_ | refine J (AL rfl Oy Z Z Z) ?_
 refine A9 Z Z Z ?_
 first | refine J (AM rfl FO Z Z Z) ?_ | refine J (AO rfl FO Z Z Z) ?_ | refine J (AP rfl FO Z Z Z) ?_ | refine J (AN rfl FO Z Z Z) ?_ | refine J (AL rfl FO Z Z Z) ?_
 refine A9 Z Z Z ?_
 first | refine J (AY Z Z As rfl) ?_ | refine J (AW Z Z Z As rfl) ?_ | refine J (AX Z Z (rfl) rfl As rfl) ?_
 refine A9 Z Z Z ?_
 first | refine J (Ea Z Z Z) ?_ | refine J (E9 Z Z Z) ?_ | refine J (EV Z Z Z) ?_ | refine J (E4 Tryz.underlying9 Z Z Z) ?_ | refine J (E7 Tryz.underlying9 Z Z Z) ?_ | refine J (E6 Tryz.underlying9 Z Z) ?_ | refine J (E5 Tryz.underlying9 Z Z Z) ?_ | refine J (E8 Tryz.underlying9 Z Z) ?_
 refine J (DX Z Z Z Z) (AD Z Z (AG (Ae ?_)));exact ⟨_,[],[],Aa rfl,rfl,rfl,rfl,rfl⟩
theorem Qo (r:A5):AU Tryz.prog 22 [.d (EX r)] (EX r):=by
 refine B2 Tryz.func22 Z Z Tryz.ntmps22 Z Z Z fun F hF=>(AF (AJ (U (C5 1 Z Z Z Z Z Z Z) (U (DO 2 Gy Z Z Z Z) (AG (AF (AJ ?_)))))))
 first | refine J (AM rfl NF Z Z Z) ?_ | refine J (AO rfl NF Z Z Z) ?_ | refine J (AP rfl NF Z Z Z) ?_ | refine J (AN rfl NF Z Z Z) ?_ | refine J (AL rfl NF Z Z Z) ?_
 first | refine J (AY Z Z Ab rfl) ?_ | refine J (AW Z Z Z Ab rfl) ?_ | refine J (AX Z Z (rfl) rfl Ab rfl) ?_
 first | refine J (AM rfl NE Z Z Z) ?_ | refine J (AO rfl NE Z Z Z) ?_ | refine J (AP rfl NE Z Z Z) ?_ | refine J (AN rfl NE Z Z Z) ?_ | refine J (AL rfl NE Z Z Z) ?_
 first | refine J (Av Z Z PX rfl) ?_ | refine J (Aw Z Z PX Z Z Z) ?_ | refine J (Ax Z Z (rfl) rfl PX rfl) ?_
 first | refine J (AM rfl ND Z Z Z) ?_ | refine J (AO rfl ND Z Z Z) ?_ | refine J (AP rfl ND Z Z Z) ?_ | refine J (AN rfl ND Z Z Z) ?_ | refine J (AL rfl ND Z Z Z) ?_
 first | refine J (AY Z Z As rfl) ?_ | refine J (AW Z Z Z As rfl) ?_ | refine J (AX Z Z (rfl) rfl As rfl) ?_
 first | refine J (AM rfl NC Z Z Z) ?_ | refine J (AO rfl NC Z Z Z) ?_ | refine J (AP rfl NC Z Z Z) ?_ | refine J (AN rfl NC Z Z Z) ?_ | refine J (AL rfl NC Z Z Z) ?_
 first | refine J (AY Z Z As rfl) ?_ | refine J (AW Z Z Z As rfl) ?_ | refine J (AX Z Z (rfl) rfl As rfl) ?_
 refine J (DH Gy Jo Z Z Z) (U (CF Z Z Z Z Z Z Z sz53) (AG (Ae ?_)));exact ⟨_,[],[],Aa rfl,rfl,rfl,rfl,rfl⟩
theorem Lr {α:Type} {acc l:List α} (h:acc=l.take acc.length) (hk:acc.length<l.length):acc++ [l[acc.length]]=l.take (acc++ [l[acc.length]]).length:=by
 rw [List.length_append,List.length_singleton,List.take_succ_eq_append_getElem hk,←h]
theorem PL {α:Type} {acc l:List α} (h:acc=l.take acc.length) (hk:¬acc.length<l.length):acc=l:=by
 rw [h];exact List.take_of_length_le (by omega)
theorem T9 {α:Type} (acc:List α) (x:α) (h:acc.length<9223372036854775807):IntKind.i64.wrap ((acc.length:Int)+1)=(((acc++ [x]).length:Nat):Int):=by
 rw [List.length_append];exact Ac (acc.length+1) (by omega)
abbrev I1:AV:= .d (.sl (some true) [])
theorem OW (i:AT) (g1:i.po.length≤10000) (g2:i.pa.length≤10000) (g3:i.af.length≤10000):AU Tryz.prog 23 [.d (BH i)] (BH i):=by
 refine B2 Tryz.func23 Z Z Tryz.ntmps23 Z Z Z fun F hF=>(AF (AJ (U (C5 1 Z Z Z Z Z Z Z) (U (DO 2 FG Z Z Z Z) (AG (AF (Gp [[],[0],[],[2],[],[4],[],[],[7],[6,7,8],[0,1,2,3,4,5,6,7,8,9],[],[0,1,2,3,4,5,6,7,8,9,10,11]] BF rfl (Hh ?_))))))))
 first | refine AE [1] [] Z Z (fun _=>AB (AM rfl Fm Z Z Z)) ?_ | refine AI [1] Z Z (fun _=>AB (AM rfl Fm Z Z Z)) ?_ | refine AE [1] [] Z Z (fun _=>AB (AO rfl Fm Z Z Z)) ?_ | refine AI [1] Z Z (fun _=>AB (AO rfl Fm Z Z Z)) ?_ | refine AE [1] [] Z Z (fun _=>AB (AP rfl Fm Z Z Z)) ?_ | refine AI [1] Z Z (fun _=>AB (AP rfl Fm Z Z Z)) ?_ | refine AE [1] [] Z Z (fun _=>AB (AN rfl Fm Z Z Z)) ?_ | refine AI [1] Z Z (fun _=>AB (AN rfl Fm Z Z Z)) ?_ | refine AE [1] [] Z Z (fun _=>AB (AL rfl Fm Z Z Z)) ?_ | refine AI [1] Z Z (fun _=>AB (AL rfl Fm Z Z Z)) ?_
 first | refine AE [6] [] Z Z (fun _=>AB (AY Z Z Ab rfl)) ?_ | refine AI [6] Z Z (fun _=>AB (AY Z Z Ab rfl)) ?_ | refine AE [6] [] Z Z (fun _=>AB (AW Z Z Z Ab rfl)) ?_ | refine AI [6] Z Z (fun _=>AB (AW Z Z Z Ab rfl)) ?_ | refine AE [6] [] Z Z (fun _=>AB (AX Z Z (rfl) rfl Ab rfl)) ?_ | refine AI [6] Z Z (fun _=>AB (AX Z Z (rfl) rfl Ab rfl)) ?_
 first | refine AE [1] [] Z Z (fun _=>AB (AM rfl Fl Z Z Z)) ?_ | refine AI [1] Z Z (fun _=>AB (AM rfl Fl Z Z Z)) ?_ | refine AE [1] [] Z Z (fun _=>AB (AO rfl Fl Z Z Z)) ?_ | refine AI [1] Z Z (fun _=>AB (AO rfl Fl Z Z Z)) ?_ | refine AE [1] [] Z Z (fun _=>AB (AP rfl Fl Z Z Z)) ?_ | refine AI [1] Z Z (fun _=>AB (AP rfl Fl Z Z Z)) ?_ | refine AE [1] [] Z Z (fun _=>AB (AN rfl Fl Z Z Z)) ?_ | refine AI [1] Z Z (fun _=>AB (AN rfl Fl Z Z Z)) ?_ | refine AE [1] [] Z Z (fun _=>AB (AL rfl Fl Z Z Z)) ?_ | refine AI [1] Z Z (fun _=>AB (AL rfl Fl Z Z Z)) ?_
 first | refine AE [8] [] Z Z (fun _=>AB (AY Z Z Ab rfl)) ?_ | refine AI [8] Z Z (fun _=>AB (AY Z Z Ab rfl)) ?_ | refine AE [8] [] Z Z (fun _=>AB (AW Z Z Z Ab rfl)) ?_ | refine AI [8] Z Z (fun _=>AB (AW Z Z Z Ab rfl)) ?_ | refine AE [8] [] Z Z (fun _=>AB (AX Z Z (rfl) rfl Ab rfl)) ?_ | refine AI [8] Z Z (fun _=>AB (AX Z Z (rfl) rfl Ab rfl)) ?_
 first | refine AE [1] [] Z Z (fun _=>AB (AM rfl Fk Z Z Z)) ?_ | refine AI [1] Z Z (fun _=>AB (AM rfl Fk Z Z Z)) ?_ | refine AE [1] [] Z Z (fun _=>AB (AO rfl Fk Z Z Z)) ?_ | refine AI [1] Z Z (fun _=>AB (AO rfl Fk Z Z Z)) ?_ | refine AE [1] [] Z Z (fun _=>AB (AP rfl Fk Z Z Z)) ?_ | refine AI [1] Z Z (fun _=>AB (AP rfl Fk Z Z Z)) ?_ | refine AE [1] [] Z Z (fun _=>AB (AN rfl Fk Z Z Z)) ?_ | refine AI [1] Z Z (fun _=>AB (AN rfl Fk Z Z Z)) ?_ | refine AE [1] [] Z Z (fun _=>AB (AL rfl Fk Z Z Z)) ?_ | refine AI [1] Z Z (fun _=>AB (AL rfl Fk Z Z Z)) ?_
 first | refine AE [10] [] Z Z (fun _=>AB (AY Z Z Ab rfl)) ?_ | refine AI [10] Z Z (fun _=>AB (AY Z Z Ab rfl)) ?_ | refine AE [10] [] Z Z (fun _=>AB (AW Z Z Z Ab rfl)) ?_ | refine AI [10] Z Z (fun _=>AB (AW Z Z Z Ab rfl)) ?_ | refine AE [10] [] Z Z (fun _=>AB (AX Z Z (rfl) rfl Ab rfl)) ?_ | refine AI [10] Z Z (fun _=>AB (AX Z Z (rfl) rfl Ab rfl)) ?_
 refine Gn [] [3] [(12,_)] Z Z (fun _=>Gq (Fq 3 C7 Z Z Z Z Z Z Z Z)) (.inr ⟨12,_,rfl,rfl,rfl,rfl,rfl⟩) Z Z Z Z Z ?_
 first | refine AE [1] [] Z Z (fun _=>AB (AM rfl DE Z Z Z)) ?_ | refine AI [1] Z Z (fun _=>AB (AM rfl DE Z Z Z)) ?_ | refine AE [1] [] Z Z (fun _=>AB (AO rfl DE Z Z Z)) ?_ | refine AI [1] Z Z (fun _=>AB (AO rfl DE Z Z Z)) ?_ | refine AE [1] [] Z Z (fun _=>AB (AP rfl DE Z Z Z)) ?_ | refine AI [1] Z Z (fun _=>AB (AP rfl DE Z Z Z)) ?_ | refine AE [1] [] Z Z (fun _=>AB (AN rfl DE Z Z Z)) ?_ | refine AI [1] Z Z (fun _=>AB (AN rfl DE Z Z Z)) ?_ | refine AE [1] [] Z Z (fun _=>AB (AL rfl DE Z Z Z)) ?_ | refine AI [1] Z Z (fun _=>AB (AL rfl DE Z Z Z)) ?_
 first | refine AE [13] [] Z Z (fun _=>AB (AY Z Z BO rfl)) ?_ | refine AI [13] Z Z (fun _=>AB (AY Z Z BO rfl)) ?_ | refine AE [13] [] Z Z (fun _=>AB (AW Z Z Z BO rfl)) ?_ | refine AI [13] Z Z (fun _=>AB (AW Z Z Z BO rfl)) ?_ | refine AE [13] [] Z Z (fun _=>AB (AX Z Z (rfl) rfl BO rfl)) ?_ | refine AI [13] Z Z (fun _=>AB (AX Z Z (rfl) rfl BO rfl)) ?_
 first | refine Gn [12,14] [3] [(15,_)] Z Z (fun _=>Gq (If (([]:List Int)) (i.af) Z Z Z Z Z Z Z Z C7 (by simp only [List.length_nil];omega) Z Z Z Z)) (.inr ⟨15,_,rfl,rfl,rfl,rfl,rfl⟩) Z Z Z Z Z ?_ | refine Gn [12,14] [3] [(15,_)] Z Z (fun _=>Gq (LD (([]:List Int)) (i.af) Z Z Z Z Z Z (fun _=>rfl) C7 (by simp only [List.length_nil];omega) Z Z Z Z)) (.inr ⟨15,_,rfl,rfl,rfl,rfl,rfl⟩) Z Z Z Z Z ?_
 first | refine AE [7,9,11,15] [] Z Z (fun _=>AB (DH FG XP Z Z Z)) ?_ | refine AI [7,9,11,15] Z Z (fun _=>AB (DH FG XP Z Z Z)) ?_
 refine Gn [] [4] [(3,_)] Z Z (fun _=>Gq (DO 4 FG Z Z Z Z)) (.inr ⟨3,_,rfl,rfl,rfl,rfl,rfl⟩) Z Z Z Z Z (GR 12 Z Z Z (BC 13 Z Z (U (CF Z Z Z Z Z Z Z C6) (AG ⟨rfl,?_⟩))));refine GQ ?_;refine AF (AF (Yu (ys:=i.af.map AH) 4 0 5 3 Z Z Z (by simp) (List.take_of_length_le (by simp)) Z Z Z Z Z Z (Cv 4 0 3 901 PT Z Z Z Z Z Z Z (AJ (AD Z Z (AG (Al (DG (α:=List Ec) (fun acc=>⟨60,[(1,(.ptr 1 0 0)),(2,(.ptr 2 0 0)),(3,(.ptr 4 0 0)),(4,(.d (AH (acc.length:Int))))],[(901,[.rowD 125 4 (acc.map Cm)]),(1,[.blk 72 [.d (AH i.id),.d (AH i.pr),.d (AH i.sq),.d (.sl none (i.po.map Cm)),.d (.sl none (i.pa.map HC)),.d (.sl none (i.af.map AH))]]),(2,[.blk 49 [.d (AH 0),.d (AH 0),.d (AH 0),I1,I1,I1]]),(4,[.blk 49 [.d (AH i.id),.d (AH i.pr),.d (AH i.sq),.own 901 0 acc.length,I1,.d (.sl none (i.af.map AH))]])]⟩) (fun acc=>acc=i.po.take acc.length∧acc.length≤i.po.length) (fun acc=>i.po.length - acc.length) ([]) (⟨by simp,Nat.zero_le _⟩) (BA hF [901,1,2,4] Z Z ⟨rfl,rfl,rfl,rfl,trivial⟩) ?_))))))));rintro acc ⟨hI,hk0⟩;refine AF (AF (AJ (AC Z Z ?_)))
 first | refine J (AM rfl JT Z Z Z) ?_ | refine J (AO rfl JT Z Z Z) ?_ | refine J (AP rfl JT Z Z Z) ?_ | refine J (AN rfl JT Z Z Z) ?_ | refine J (AL rfl JT Z Z Z) ?_
 first | refine J (AY Z Z HD rfl) ?_ | refine J (AW Z Z Z HD rfl) ?_ | refine J (AX Z Z (rfl) rfl HD rfl) ?_
 first | refine J (Cz rfl Tryz.underlying69 rfl) ?_ | refine J (C9 Z Z Tryz.underlying69 rfl) ?_ | refine J (DB rfl Tryz.underlying69 rfl) ?_ | refine J (Cy rfl Tryz.underlying69 rfl) ?_ | refine J (Cr rfl Tryz.underlying69 rfl) ?_ | refine J (Cw rfl Tryz.underlying69 rfl) ?_
 first | refine J (CD Z Z Z) ?_ | refine J (CE Z Z Z) ?_
 refine AG ?_
 first | refine Ay rfl (fun h21=>?_) (fun h21=>?_) | refine At rfl (fun h21=>?_) (fun h21=>?_)
 ·have hk1:acc.length<i.po.length:=DA h21;refine Ak (AF (Al (Gp [[],[0],[],[2],[],[2,3,4],[2,3,4,5],[2,3,4,5,6],[],[8],[],[8,9,10],[8,9,10,11],[8,9,10,11,12],[2,3,4,5,6,7,8,9,10,11,12,13],[2,3,4,5,6,7,8,9,10,11,12,13,14],[0,1,2,3,4,5,6,7,8,9,10,11,12,13,14,15],[0,1,2,3,4,5,6,7,8,9,10,11,12,13,14,15,16],[0,1,2,3,4,5,6,7,8,9,10,11,12,13,14,15,16,17]] BF rfl (Hh ?_))))
  first | refine AE [3] [] Z Z (fun _=>AB (AM rfl Dl Z Z Z)) ?_ | refine AI [3] Z Z (fun _=>AB (AM rfl Dl Z Z Z)) ?_ | refine AE [3] [] Z Z (fun _=>AB (AO rfl Dl Z Z Z)) ?_ | refine AI [3] Z Z (fun _=>AB (AO rfl Dl Z Z Z)) ?_ | refine AE [3] [] Z Z (fun _=>AB (AP rfl Dl Z Z Z)) ?_ | refine AI [3] Z Z (fun _=>AB (AP rfl Dl Z Z Z)) ?_ | refine AE [3] [] Z Z (fun _=>AB (AN rfl Dl Z Z Z)) ?_ | refine AI [3] Z Z (fun _=>AB (AN rfl Dl Z Z Z)) ?_ | refine AE [3] [] Z Z (fun _=>AB (AL rfl Dl Z Z Z)) ?_ | refine AI [3] Z Z (fun _=>AB (AL rfl Dl Z Z Z)) ?_
  first | refine AE [24] [] Z Z (fun _=>AB (AY Z Z Fi rfl)) ?_ | refine AI [24] Z Z (fun _=>AB (AY Z Z Fi rfl)) ?_ | refine AE [24] [] Z Z (fun _=>AB (AW Z Z Z Fi rfl)) ?_ | refine AI [24] Z Z (fun _=>AB (AW Z Z Z Fi rfl)) ?_ | refine AE [24] [] Z Z (fun _=>AB (AX Z Z (rfl) rfl Fi rfl)) ?_ | refine AI [24] Z Z (fun _=>AB (AX Z Z (rfl) rfl Fi rfl)) ?_
  first | refine AE [1] [] Z Z (fun _=>AB (AM rfl JT Z Z Z)) ?_ | refine AI [1] Z Z (fun _=>AB (AM rfl JT Z Z Z)) ?_ | refine AE [1] [] Z Z (fun _=>AB (AO rfl JT Z Z Z)) ?_ | refine AI [1] Z Z (fun _=>AB (AO rfl JT Z Z Z)) ?_ | refine AE [1] [] Z Z (fun _=>AB (AP rfl JT Z Z Z)) ?_ | refine AI [1] Z Z (fun _=>AB (AP rfl JT Z Z Z)) ?_ | refine AE [1] [] Z Z (fun _=>AB (AN rfl JT Z Z Z)) ?_ | refine AI [1] Z Z (fun _=>AB (AN rfl JT Z Z Z)) ?_ | refine AE [1] [] Z Z (fun _=>AB (AL rfl JT Z Z Z)) ?_ | refine AI [1] Z Z (fun _=>AB (AL rfl JT Z Z Z)) ?_
  first | refine AE [26] [] Z Z (fun _=>AB (AY Z Z HD rfl)) ?_ | refine AI [26] Z Z (fun _=>AB (AY Z Z HD rfl)) ?_ | refine AE [26] [] Z Z (fun _=>AB (AW Z Z Z HD rfl)) ?_ | refine AI [26] Z Z (fun _=>AB (AW Z Z Z HD rfl)) ?_ | refine AE [26] [] Z Z (fun _=>AB (AX Z Z (rfl) rfl HD rfl)) ?_ | refine AI [26] Z Z (fun _=>AB (AX Z Z (rfl) rfl HD rfl)) ?_
  first | refine AE [4] [] Z Z (fun _=>AB (Be Z Z)) ?_ | refine AI [4] Z Z (fun _=>AB (Be Z Z)) ?_
  first | refine AE [27,28] [] Z Z (fun _=>AB (CT (acc.length) Z Z (rfl) (A0 hk1) Tryz.underlying69 rfl LG rfl)) ?_ | refine AI [27,28] Z Z (fun _=>AB (CT (acc.length) Z Z (rfl) (A0 hk1) Tryz.underlying69 rfl LG rfl)) ?_ | refine AE [27,28] [] Z Z (fun _=>AB (CU (acc.length) Z Z (rfl) (A0 hk1) rfl Tryz.underlying69 LG rfl)) ?_ | refine AI [27,28] Z Z (fun _=>AB (CU (acc.length) Z Z (rfl) (A0 hk1) rfl Tryz.underlying69 LG rfl)) ?_
  first | refine AE [29] [] Z Z (fun _=>AB (AM rfl Dy Z Z Z)) ?_ | refine AI [29] Z Z (fun _=>AB (AM rfl Dy Z Z Z)) ?_ | refine AE [29] [] Z Z (fun _=>AB (AO rfl Dy Z Z Z)) ?_ | refine AI [29] Z Z (fun _=>AB (AO rfl Dy Z Z Z)) ?_ | refine AE [29] [] Z Z (fun _=>AB (AP rfl Dy Z Z Z)) ?_ | refine AI [29] Z Z (fun _=>AB (AP rfl Dy Z Z Z)) ?_ | refine AE [29] [] Z Z (fun _=>AB (AN rfl Dy Z Z Z)) ?_ | refine AI [29] Z Z (fun _=>AB (AN rfl Dy Z Z Z)) ?_ | refine AE [29] [] Z Z (fun _=>AB (AL rfl Dy Z Z Z)) ?_ | refine AI [29] Z Z (fun _=>AB (AL rfl Dy Z Z Z)) ?_
  first | refine AE [30] [] Z Z (fun _=>AB (Av Z Z PX rfl)) ?_ | refine AI [30] Z Z (fun _=>AB (Av Z Z PX rfl)) ?_ | refine AE [30] [] Z Z (fun _=>AB (Aw Z Z PX Z Z Z)) ?_ | refine AI [30] Z Z (fun _=>AB (Aw Z Z PX Z Z Z)) ?_ | refine AE [30] [] Z Z (fun _=>AB (Ax Z Z (rfl) rfl PX rfl)) ?_ | refine AI [30] Z Z (fun _=>AB (Ax Z Z (rfl) rfl PX rfl)) ?_
  first | refine AE [1] [] Z Z (fun _=>AB (AM rfl JT Z Z Z)) ?_ | refine AI [1] Z Z (fun _=>AB (AM rfl JT Z Z Z)) ?_ | refine AE [1] [] Z Z (fun _=>AB (AO rfl JT Z Z Z)) ?_ | refine AI [1] Z Z (fun _=>AB (AO rfl JT Z Z Z)) ?_ | refine AE [1] [] Z Z (fun _=>AB (AP rfl JT Z Z Z)) ?_ | refine AI [1] Z Z (fun _=>AB (AP rfl JT Z Z Z)) ?_ | refine AE [1] [] Z Z (fun _=>AB (AN rfl JT Z Z Z)) ?_ | refine AI [1] Z Z (fun _=>AB (AN rfl JT Z Z Z)) ?_ | refine AE [1] [] Z Z (fun _=>AB (AL rfl JT Z Z Z)) ?_ | refine AI [1] Z Z (fun _=>AB (AL rfl JT Z Z Z)) ?_
  first | refine AE [32] [] Z Z (fun _=>AB (AY Z Z HD rfl)) ?_ | refine AI [32] Z Z (fun _=>AB (AY Z Z HD rfl)) ?_ | refine AE [32] [] Z Z (fun _=>AB (AW Z Z Z HD rfl)) ?_ | refine AI [32] Z Z (fun _=>AB (AW Z Z Z HD rfl)) ?_ | refine AE [32] [] Z Z (fun _=>AB (AX Z Z (rfl) rfl HD rfl)) ?_ | refine AI [32] Z Z (fun _=>AB (AX Z Z (rfl) rfl HD rfl)) ?_
  first | refine AE [4] [] Z Z (fun _=>AB (Be Z Z)) ?_ | refine AI [4] Z Z (fun _=>AB (Be Z Z)) ?_
  first | refine AE [33,34] [] Z Z (fun _=>AB (CT (acc.length) Z Z (rfl) (A0 hk1) Tryz.underlying69 rfl LG rfl)) ?_ | refine AI [33,34] Z Z (fun _=>AB (CT (acc.length) Z Z (rfl) (A0 hk1) Tryz.underlying69 rfl LG rfl)) ?_ | refine AE [33,34] [] Z Z (fun _=>AB (CU (acc.length) Z Z (rfl) (A0 hk1) rfl Tryz.underlying69 LG rfl)) ?_ | refine AI [33,34] Z Z (fun _=>AB (CU (acc.length) Z Z (rfl) (A0 hk1) rfl Tryz.underlying69 LG rfl)) ?_
  first | refine AE [35] [] Z Z (fun _=>AB (AM rfl Dx Z Z Z)) ?_ | refine AI [35] Z Z (fun _=>AB (AM rfl Dx Z Z Z)) ?_ | refine AE [35] [] Z Z (fun _=>AB (AO rfl Dx Z Z Z)) ?_ | refine AI [35] Z Z (fun _=>AB (AO rfl Dx Z Z Z)) ?_ | refine AE [35] [] Z Z (fun _=>AB (AP rfl Dx Z Z Z)) ?_ | refine AI [35] Z Z (fun _=>AB (AP rfl Dx Z Z Z)) ?_ | refine AE [35] [] Z Z (fun _=>AB (AN rfl Dx Z Z Z)) ?_ | refine AI [35] Z Z (fun _=>AB (AN rfl Dx Z Z Z)) ?_ | refine AE [35] [] Z Z (fun _=>AB (AL rfl Dx Z Z Z)) ?_ | refine AI [35] Z Z (fun _=>AB (AL rfl Dx Z Z Z)) ?_
  first | refine AE [36] [] Z Z (fun _=>AB (AY Z Z BI rfl)) ?_ | refine AI [36] Z Z (fun _=>AB (AY Z Z BI rfl)) ?_ | refine AE [36] [] Z Z (fun _=>AB (AW Z Z Z BI rfl)) ?_ | refine AI [36] Z Z (fun _=>AB (AW Z Z Z BI rfl)) ?_ | refine AE [36] [] Z Z (fun _=>AB (AX Z Z (rfl) rfl BI rfl)) ?_ | refine AI [36] Z Z (fun _=>AB (AX Z Z (rfl) rfl BI rfl)) ?_
  first | refine AE [31,37] [] Z Z (fun _=>AB (DH J1 OT Z Z Z)) ?_ | refine AI [31,37] Z Z (fun _=>AB (DH J1 OT Z Z Z)) ?_
  refine Gn [38] [5] [(39,_)] Z Z (fun _=>Gq (Fq 5 PT Z Z Z Z Z Z Z Z)) (.inr ⟨39,_,rfl,rfl,rfl,rfl,rfl⟩) Z Z Z Z Z (GR 16 Z Z Z (BC 17 Z Z ?_))
  first | refine U (If (acc) ([i.po[acc.length]]) Z Z Z Z Z Z Z Z PT (by simp only [List.length_singleton];omega) Z Z Z Z) ?_ | refine U (LD (acc) ([i.po[acc.length]]) Z Z Z Z Z Z (fun _=>rfl) PT (by simp only [List.length_singleton];omega) Z Z Z Z) ?_
  refine AG ⟨rfl,?_⟩;refine BC 18 Z Z ?_
  first | refine J (AM rfl Dl Z Z Z) ?_ | refine J (AO rfl Dl Z Z Z) ?_ | refine J (AP rfl Dl Z Z Z) ?_ | refine J (AN rfl Dl Z Z Z) ?_ | refine J (AL rfl Dl Z Z Z) ?_
  refine AG ⟨rfl,?_⟩;refine BC 19 Z Z (U (CF Z Z Z Z Z Z Z sz46) (AG ⟨rfl,?_⟩));refine GQ (AJ (AC Z Z (J (Bi Z Z (T9 acc i.po[acc.length] (by omega)) rfl) (AD Z Z (AG ?_)))));exact ⟨acc++ [i.po[acc.length]],⟨Lr hI hk1,by rw [List.length_append];show acc.length+1≤_;omega⟩,by rw [List.length_append];show i.po.length - (acc.length+1)<i.po.length - acc.length;omega,BA hF [901,1,2,4] rfl (rfl) ⟨rfl,rfl,rfl,rfl,trivial⟩⟩
 ·refine CW (AF (AF ?_));have hacc:=PL hI (fun h=>h21 (by omega));refine Yu (ys:=i.po.map Cm) 4 0 3 901 Z Z Z (by simp) (by rw [hacc];exact List.take_of_length_le (by simp)) Z Z Z Z Z Z (Cv 4 0 4 902 Q6 Z Z Z Z Z Z Z (AJ (AD Z Z (AG (Al (DG (α:=List N1) (fun acc2=>⟨60,[(1,(.ptr 1 0 0)),(2,(.ptr 2 0 0)),(3,(.ptr 4 0 0)),(5,(.d (AH (acc2.length:Int))))],[(902,[.rowD 135 3 (acc2.map HC)]),(1,[.blk 72 [.d (AH i.id),.d (AH i.pr),.d (AH i.sq),.d (.sl none (i.po.map Cm)),.d (.sl none (i.pa.map HC)),.d (.sl none (i.af.map AH))]]),(2,[.blk 49 [.d (AH 0),.d (AH 0),.d (AH 0),I1,I1,I1]]),(4,[.blk 49 [.d (AH i.id),.d (AH i.pr),.d (AH i.sq),.d (.sl none (i.po.map Cm)),.own 902 0 acc2.length,.d (.sl none (i.af.map AH))]])]⟩) (fun acc2=>acc2=i.pa.take acc2.length∧acc2.length≤i.pa.length) (fun acc2=>i.pa.length - acc2.length) ([]) (⟨by simp,Nat.zero_le _⟩) (BA hF [902,1,2,4] Z Z ⟨rfl,rfl,rfl,rfl,trivial⟩) ?_))))));rintro acc2 ⟨hJ,hk2⟩;refine AF (AF (AJ (AC Z Z ?_)))
  first | refine J (AM rfl Oz Z Z Z) ?_ | refine J (AO rfl Oz Z Z Z) ?_ | refine J (AP rfl Oz Z Z Z) ?_ | refine J (AN rfl Oz Z Z Z) ?_ | refine J (AL rfl Oz Z Z Z) ?_
  first | refine J (AY Z Z Lj rfl) ?_ | refine J (AW Z Z Z Lj rfl) ?_ | refine J (AX Z Z (rfl) rfl Lj rfl) ?_
  first | refine J (Cz rfl Tryz.underlying70 rfl) ?_ | refine J (C9 Z Z Tryz.underlying70 rfl) ?_ | refine J (DB rfl Tryz.underlying70 rfl) ?_ | refine J (Cy rfl Tryz.underlying70 rfl) ?_ | refine J (Cr rfl Tryz.underlying70 rfl) ?_ | refine J (Cw rfl Tryz.underlying70 rfl) ?_
  first | refine J (CD Z Z Z) ?_ | refine J (CE Z Z Z) ?_
  refine AG ?_
  first | refine Ay rfl (fun h46=>?_) (fun h46=>?_) | refine At rfl (fun h46=>?_) (fun h46=>?_)
  ·have hk3:acc2.length<i.pa.length:=DA h46;refine Ak (AF (Al (Gp [[],[0],[],[2],[],[2,3,4],[2,3,4,5],[2,3,4,5,6],[0,1,2,3,4,5,6,7],[0,1,2,3,4,5,6,7,8],[0,1,2,3,4,5,6,7,8,9]] BF rfl (Hh ?_))))
   first | refine AE [3] [] Z Z (fun _=>AB (AM rfl FN Z Z Z)) ?_ | refine AI [3] Z Z (fun _=>AB (AM rfl FN Z Z Z)) ?_ | refine AE [3] [] Z Z (fun _=>AB (AO rfl FN Z Z Z)) ?_ | refine AI [3] Z Z (fun _=>AB (AO rfl FN Z Z Z)) ?_ | refine AE [3] [] Z Z (fun _=>AB (AP rfl FN Z Z Z)) ?_ | refine AI [3] Z Z (fun _=>AB (AP rfl FN Z Z Z)) ?_ | refine AE [3] [] Z Z (fun _=>AB (AN rfl FN Z Z Z)) ?_ | refine AI [3] Z Z (fun _=>AB (AN rfl FN Z Z Z)) ?_ | refine AE [3] [] Z Z (fun _=>AB (AL rfl FN Z Z Z)) ?_ | refine AI [3] Z Z (fun _=>AB (AL rfl FN Z Z Z)) ?_
   first | refine AE [49] [] Z Z (fun _=>AB (AY Z Z HE rfl)) ?_ | refine AI [49] Z Z (fun _=>AB (AY Z Z HE rfl)) ?_ | refine AE [49] [] Z Z (fun _=>AB (AW Z Z Z HE rfl)) ?_ | refine AI [49] Z Z (fun _=>AB (AW Z Z Z HE rfl)) ?_ | refine AE [49] [] Z Z (fun _=>AB (AX Z Z (rfl) rfl HE rfl)) ?_ | refine AI [49] Z Z (fun _=>AB (AX Z Z (rfl) rfl HE rfl)) ?_
   first | refine AE [1] [] Z Z (fun _=>AB (AM rfl Oz Z Z Z)) ?_ | refine AI [1] Z Z (fun _=>AB (AM rfl Oz Z Z Z)) ?_ | refine AE [1] [] Z Z (fun _=>AB (AO rfl Oz Z Z Z)) ?_ | refine AI [1] Z Z (fun _=>AB (AO rfl Oz Z Z Z)) ?_ | refine AE [1] [] Z Z (fun _=>AB (AP rfl Oz Z Z Z)) ?_ | refine AI [1] Z Z (fun _=>AB (AP rfl Oz Z Z Z)) ?_ | refine AE [1] [] Z Z (fun _=>AB (AN rfl Oz Z Z Z)) ?_ | refine AI [1] Z Z (fun _=>AB (AN rfl Oz Z Z Z)) ?_ | refine AE [1] [] Z Z (fun _=>AB (AL rfl Oz Z Z Z)) ?_ | refine AI [1] Z Z (fun _=>AB (AL rfl Oz Z Z Z)) ?_
   first | refine AE [51] [] Z Z (fun _=>AB (AY Z Z Lj rfl)) ?_ | refine AI [51] Z Z (fun _=>AB (AY Z Z Lj rfl)) ?_ | refine AE [51] [] Z Z (fun _=>AB (AW Z Z Z Lj rfl)) ?_ | refine AI [51] Z Z (fun _=>AB (AW Z Z Z Lj rfl)) ?_ | refine AE [51] [] Z Z (fun _=>AB (AX Z Z (rfl) rfl Lj rfl)) ?_ | refine AI [51] Z Z (fun _=>AB (AX Z Z (rfl) rfl Lj rfl)) ?_
   first | refine AE [5] [] Z Z (fun _=>AB (Be Z Z)) ?_ | refine AI [5] Z Z (fun _=>AB (Be Z Z)) ?_
   first | refine AE [52,53] [] Z Z (fun _=>AB (CT (acc2.length) Z Z (rfl) (A0 hk3) Tryz.underlying70 rfl Tf rfl)) ?_ | refine AI [52,53] Z Z (fun _=>AB (CT (acc2.length) Z Z (rfl) (A0 hk3) Tryz.underlying70 rfl Tf rfl)) ?_ | refine AE [52,53] [] Z Z (fun _=>AB (CU (acc2.length) Z Z (rfl) (A0 hk3) rfl Tryz.underlying70 Tf rfl)) ?_ | refine AI [52,53] Z Z (fun _=>AB (CU (acc2.length) Z Z (rfl) (A0 hk3) rfl Tryz.underlying70 Tf rfl)) ?_
   first | refine AE [54] [] Z Z (fun _=>AB (Av Z Z OI rfl)) ?_ | refine AI [54] Z Z (fun _=>AB (Av Z Z OI rfl)) ?_ | refine AE [54] [] Z Z (fun _=>AB (Aw Z Z OI Z Z Z)) ?_ | refine AI [54] Z Z (fun _=>AB (Aw Z Z OI Z Z Z)) ?_ | refine AE [54] [] Z Z (fun _=>AB (Ax Z Z (rfl) rfl OI rfl)) ?_ | refine AI [54] Z Z (fun _=>AB (Ax Z Z (rfl) rfl OI rfl)) ?_
   refine Gn [55] [6] [(56,_)] Z Z (fun _=>Gq (Fq 6 Q6 Z Z Z Z Z Z Z Z)) (.inr ⟨56,_,rfl,rfl,rfl,rfl,rfl⟩) Z Z Z Z Z (GR 8 Z Z Z (BC 9 Z Z ?_))
   first | refine U (If (acc2) ([i.pa[acc2.length]]) Z Z Z Z Z Z Z Z Q6 (by simp only [List.length_singleton];omega) Z Z Z Z) ?_ | refine U (LD (acc2) ([i.pa[acc2.length]]) Z Z Z Z Z Z (fun _=>rfl) Q6 (by simp only [List.length_singleton];omega) Z Z Z Z) ?_
   refine AG ⟨rfl,?_⟩;refine BC 10 Z Z ?_
   first | refine J (AM rfl FN Z Z Z) ?_ | refine J (AO rfl FN Z Z Z) ?_ | refine J (AP rfl FN Z Z Z) ?_ | refine J (AN rfl FN Z Z Z) ?_ | refine J (AL rfl FN Z Z Z) ?_
   refine AG ⟨rfl,?_⟩;refine BC 11 Z Z (U (CF Z Z Z Z Z Z Z sz47) (AG ⟨rfl,?_⟩));refine GQ (AJ (AC Z Z (J (Bi Z Z (T9 acc2 i.pa[acc2.length] (by omega)) rfl) (AD Z Z (AG ?_)))));exact ⟨acc2++ [i.pa[acc2.length]],⟨Lr hJ hk3,by rw [List.length_append];show acc2.length+1≤_;omega⟩,by rw [List.length_append];show i.pa.length - (acc2.length+1)<i.pa.length - acc2.length;omega,BA hF [902,1,2,4] rfl (rfl) ⟨rfl,rfl,rfl,rfl,trivial⟩⟩
  ·refine CW (AF ?_);have hacc2:=PL hJ (fun h=>h46 (by omega));refine Yu (ys:=i.pa.map HC) 4 0 4 902 Z Z Z (by simp) (by rw [hacc2];exact List.take_of_length_le (by simp)) Z Z Z Z Z Z (AJ ?_)
   first | refine J (Av Z Z Af rfl) ?_ | refine J (Aw Z Z Af Z Z Z) ?_ | refine J (Ax Z Z (rfl) rfl Af rfl) ?_
   refine U (CF Z Z Z Z Z Z Z C6) (AG (Ae ?_));exact ⟨_,[],[],Aa rfl,rfl,rfl,rfl,rfl⟩
def pd (r:A5) (p:Ec):Int:=if p.acc=r.acc then p.d else 0
theorem Us {α:Type} {l:List α} {f:α ->Int} {B:Int} (h:∀x∈l,-B≤f x∧f x≤B) (n:Nat) (hn:l.length≤n) (hB:0≤B): -(n*B)≤(l.map f).sum∧(l.map f).sum≤n*B:=by
 induction l generalizing n with
 | nil=>have:=Int.mul_nonneg (Int.natCast_nonneg n) hB;simp only [List.map_nil,List.sum_nil];omega
 | cons x l ih=>
  obtain ⟨m,rfl⟩:∃m,n=m+1:=⟨n - 1,by simp at hn;omega⟩
  have h1:=ih (fun y hy=>h y (by simp [hy])) m (by simpa using hn);have h2:=h x (by simp);have e:((m+1:Nat):Int)*B=m*B+B:=by rw [Int.natCast_succ,Int.add_mul,Int.one_mul]
  rw [e,List.map_cons,List.sum_cons];omega
deriving instance DecidableEq for Ec
deriving instance DecidableEq for N1
deriving instance DecidableEq for AT
deriving instance DecidableEq for Roo
theorem Ec.eq_iff {x y:Ec}:x=y↔x.acc=y.acc∧x.d=y.d:=by cases x;cases y;simp
theorem N1.eq_iff {x y:N1}:x=y↔x.f=y.f∧x.t=y.t∧x.n=y.n:=by cases x;cases y;simp
theorem Roo.eq_iff {x y:Roo}:x=y↔x.r=y.r∧x.n=y.n:=by cases x;cases y;simp
theorem AT.eq_iff {x y:AT}:x=y↔x.id=y.id∧x.pr=y.pr∧x.sq=y.sq∧x.po=y.po∧x.pa=y.pa∧x.af=y.af:=by cases x;cases y;simp
def VM (x:Roo):List Value:=[.int .i64 x.r.k,IZ x.r.acc.o,.int .i64 x.r.acc.k,IZ x.r.acc.a,IZ x.r.f,IZ x.r.t,.int .i64 x.n]
abbrev rooT:List TypeDesc:=[.int .i64,.string,.int .i64,.string,.string,.string,.int .i64]
theorem roo_eqC (a b:Roo):B9 (VM a) (VM b)=decide (a=b):=by
 simp only [VM,B9,JH,JG,Roo.eq_iff,A5.eq_iff,PH.eq_iff,Bool.and_true,Bool.decide_and,Bool.and_assoc]
theorem ON (a:Roo):BP rooT (VM a):=SI rfl (SI trivial (SI rfl (SI trivial (SI trivial (SI trivial (SI rfl Kd))))))
theorem My {α:Type} {p:α ->Bool} {l:List α} {k:Nat} (hk:k<l.length):(l.take (k+1)).filter p=(l.take k).filter p++(if p l[k] then [l[k]] else []):=by
 rw [List.take_succ_eq_append_getElem hk,List.filter_append]
 congr 1
 rw [List.filter_cons,List.filter_nil]
abbrev BJ (b:Bool):D:= .raw (.bool b)
def Ba {α:Type} (l:List α):List (α×Bool):=l.map fun a=>(a,true)
theorem EE {α:Type} [DecidableEq α] (l:List α) (a:α):Ai (Ba l) a false=decide (a∈l):=by
 induction l with
 | nil=>rfl
 | cons b l ih=>
  simp only [Ba,List.map_cons,Ai]
  by_cases h:a=b
  ·rw [if_pos h];simp [h]
  ·rw [if_neg h];simp only [Ba] at ih;rw [ih];simp [h]
theorem HQ {α:Type} [DecidableEq α] {l:List α} {a:α} (h:a∉l):BM (Ba l) a true=Ba (l++ [a]):=by
 induction l with
 | nil=>rfl
 | cons b l ih=>
  simp only [List.mem_cons,not_or] at h;simp only [Ba,List.map_cons,List.cons_append,BM];rw [if_neg h.1];have:=ih h.2;simp only [Ba] at this;rw [this]
def DD:Roo:=⟨⟨0,Rv,[],[]⟩,0⟩
def MY (l:List Roo) (k:Nat):Int:=if B4 (l.getD k DD).r≠0 then B4 (l.getD k DD).r else if ¬(-4*Mx≤(l.getD k DD).n∧(l.getD k DD).n≤4*Mx) then 12 else if (l.getD k DD).r∈(l.take k).map Roo.r then 7 else 0
def D9 (l:List Roo):Int:=Bl ((List.range l.length).map (MY l))
theorem Bd {α:Type} {l:List α} {k:Nat} (d:α) (h:k<l.length):l.getD k d=l[k]:=by rw [List.getD_eq_getElem?_getD,List.getElem?_eq_getElem h];rfl
theorem Cp {α β:Type} {l:List α} {f:α ->β} {k:Nat} (hk:k<l.length):(l.take (k+1)).map f=(l.take k).map f++ [f l[k]]:=by rw [List.take_succ_eq_append_getElem hk,List.map_append];rfl
theorem rooms_p (p:Prb) (hl:p.ro.length≤100000):AU Tryz.prog 137 [.d (Cc p)] (AH (D9 p.ro)):=by
 refine B2 Tryz.func137 Z Z Tryz.ntmps137 Z Z Z fun F hF=>(AF (AJ (U (C5 1 Z Z Z Z Z Z Z) (AD Z Z ?_))));refine AG (AF (AJ (U (Ys 2 Z Z Z Z) (AD Z Z (AG (AF (AF (AJ ?_))))))))
 first | refine J (AM rfl Hr Z Z Z) ?_ | refine J (AO rfl Hr Z Z Z) ?_ | refine J (AP rfl Hr Z Z Z) ?_ | refine J (AN rfl Hr Z Z Z) ?_ | refine J (AL rfl Hr Z Z Z) ?_
 first | refine J (AY Z Z HF rfl) ?_ | refine J (AW Z Z Z HF rfl) ?_ | refine J (AX Z Z (rfl) rfl HF rfl) ?_
 first | refine J (Cz rfl Tryz.underlying28 rfl) ?_ | refine J (C9 Z Z Tryz.underlying28 rfl) ?_ | refine J (DB rfl Tryz.underlying28 rfl) ?_ | refine J (Cy rfl Tryz.underlying28 rfl) ?_ | refine J (Cr rfl Tryz.underlying28 rfl) ?_ | refine J (Cw rfl Tryz.underlying28 rfl) ?_
 refine AC Z Z (AG (Al (DG (α:=Nat) (fun k=>⟨35,[(3,(.map 2 0)),(9,(.d (.sl none (p.ro.map Ff)))),(10,(.d (AH (p.ro.length:Int)))),(11,(.d (AH (k:Int))))],[(2,[CL EX BJ (Ba ((p.ro.take k).map Roo.r))])]⟩) (fun k=>k≤p.ro.length∧D9 p.ro=Bl (((List.range p.ro.length).drop k).map (MY p.ro))) (fun k=>p.ro.length - k) (0) (⟨Nat.zero_le _,rfl⟩) (BA hF [2] Z Z ⟨rfl,rfl,rfl,rfl,trivial⟩) ?_)));rintro k ⟨hk0,hk⟩;refine AF (AJ ?_)
 first | refine J (CD Z Z Z) ?_ | refine J (CE Z Z Z) ?_
 refine AG (AF ?_)
 first | refine Ay rfl (fun h12=>?_) (fun h12=>?_) | refine At rfl (fun h12=>?_) (fun h12=>?_)
 ·have hk1:k<p.ro.length:=DA h12;refine Ak (AF (Al (AF (AJ ?_))));have hE:=FV hk1 hk;have hgd:=Bd DD hk1
  first | refine J (CT (k) Z Z (rfl) (A0 hk1) Tryz.underlying28 rfl PN rfl) ?_ | refine J (CU (k) Z Z (rfl) (A0 hk1) rfl Tryz.underlying28 PN rfl) ?_
  first | refine J (Av Z Z PW rfl) ?_ | refine J (Aw Z Z PW Z Z Z) ?_ | refine J (Ax Z Z (rfl) rfl PW rfl) ?_
  refine U (DO 3 PI Z Z Z Z) (U (CF Z Z Z Z Z Z Z PN) (AG (AF (AF (AJ ?_)))))
  first | refine J (AM rfl Dm Z Z Z) ?_ | refine J (AO rfl Dm Z Z Z) ?_ | refine J (AP rfl Dm Z Z Z) ?_ | refine J (AN rfl Dm Z Z Z) ?_ | refine J (AL rfl Dm Z Z Z) ?_
  first | refine J (Av Z Z Ah rfl) ?_ | refine J (Aw Z Z Ah Z Z Z) ?_ | refine J (Ax Z Z (rfl) rfl Ah rfl) ?_
  refine J (B1 (Ta p.ro[k].r) Z Z) (AD Z Z (AG (AF (AJ (AC Z Z ?_)))))
  first | refine J (Fa Z Z Z) ?_ | refine J (F9 Z Z Z) ?_ | refine J (FM Z Z Z) ?_ | refine J (Fb Tryz.underlying34 Z Z Z) ?_ | refine J (Fd Tryz.underlying34 Z Z Z) ?_ | refine J (st_neqN Tryz.underlying34 Z Z) ?_ | refine J (Fc Tryz.underlying34 Z Z Z) ?_ | refine J (st_neqFN Tryz.underlying34 Z Z) ?_
  refine AG ?_
  first | refine Ay rfl (fun h19=>?_) (fun h19=>?_) | refine At rfl (fun h19=>?_) (fun h19=>?_)
  ·refine AF (AJ (AC Z Z (AD Z Z (AG (Ae ?_)))));exact ⟨_,[],[],Aa rfl,rfl,rfl,Aj (hE.2 _ (by unfold MY;rw [hgd,if_pos h19]) h19),rfl⟩
  ·refine Ak (AF (Al (AF (AJ ?_))))
   first | refine J (AM rfl PA Z Z Z) ?_ | refine J (AO rfl PA Z Z Z) ?_ | refine J (AP rfl PA Z Z Z) ?_ | refine J (AN rfl PA Z Z Z) ?_ | refine J (AL rfl PA Z Z Z) ?_
   first | refine J (AY Z Z BI rfl) ?_ | refine J (AW Z Z Z BI rfl) ?_ | refine J (AX Z Z (rfl) rfl BI rfl) ?_
   refine J (B1 (G5 _ _ _) Z Z) ?_
   first | refine J (GZ Z Z) ?_ | refine J (GP Z Z) ?_
   refine AD Z Z (AG ?_)
   first | refine Ay rfl (fun h21=>?_) (fun h21=>?_) | refine At rfl (fun h21=>?_) (fun h21=>?_)
   ·refine AF (AJ (AD Z Z (AG (Ae ?_))));exact ⟨_,[],[],Aa rfl,rfl,rfl,Aj (hE.2 12 (by unfold MY;rw [hgd,if_neg h19,if_pos (by simp only [Mx];omega)]) (by decide)),rfl⟩
   ·refine AF (AJ (AC Z Z ?_))
    first | refine J (AM rfl Dm Z Z Z) ?_ | refine J (AO rfl Dm Z Z Z) ?_ | refine J (AP rfl Dm Z Z Z) ?_ | refine J (AN rfl Dm Z Z Z) ?_ | refine J (AL rfl Dm Z Z Z) ?_
    first | refine J (Av Z Z Ah rfl) ?_ | refine J (Aw Z Z Ah Z Z Z) ?_ | refine J (Ax Z Z (rfl) rfl Ah rfl) ?_
    refine J (LC (Ba ((p.ro.take k).map Roo.r)) (p.ro[k].r) (false) _ Z Z Z Xm DU za4 Z Z) ?_;rw [EE];refine AD Z Z (AG ?_)
    first | refine Ay rfl (fun h26=>?_) (fun h26=>?_) | refine At rfl (fun h26=>?_) (fun h26=>?_)
    ·refine AF (AJ (AD Z Z (AG (Ae ?_))));exact ⟨_,[],[],Aa rfl,rfl,rfl,Aj (hE.2 7 (by unfold MY;rw [hgd,if_neg h19,if_neg (by simp only [Mx];omega),if_pos h26]) (by decide)),rfl⟩
    ·have hnot:p.ro[k].r∉(p.ro.take k).map Roo.r:=h26;refine Ak (AJ (AC Z Z ?_))
     first | refine J (AM rfl Dm Z Z Z) ?_ | refine J (AO rfl Dm Z Z Z) ?_ | refine J (AP rfl Dm Z Z Z) ?_ | refine J (AN rfl Dm Z Z Z) ?_ | refine J (AL rfl Dm Z Z Z) ?_
     first | refine J (Av Z Z Ah rfl) ?_ | refine J (Aw Z Z Ah Z Z Z) ?_ | refine J (Ax Z Z (rfl) rfl Ah rfl) ?_
     first | refine U (FR (Ba ((p.ro.take k).map Roo.r)) (p.ro[k].r) (true) Z Z Z Xm DU Z Z) ?_ | refine U (ED (Ba ((p.ro.take k).map Roo.r)) (p.ro[k].r) (true) Z Z Z Xm DU Z Z) ?_
     refine AG (AJ (J (Bi Z Z (Ac (k+1) (by omega)) rfl) (AC Z Z (AG ?_))));exact ⟨k+1,⟨by show k+1≤_;omega,hE.1 (by unfold MY;rw [hgd,if_neg h19,if_neg (by simp only [Mx];omega),if_neg hnot])⟩,by show p.ro.length - (k+1)<p.ro.length - k;omega,BA hF [2] rfl (by rw [Cp hk1,←HQ hnot];rfl) ⟨rfl,rfl,rfl,rfl,trivial⟩⟩
 ·refine CW (AF (AJ (AD Z Z (AG (Ae ?_)))));exact ⟨_,[],[],Aa rfl,rfl,rfl,Aj (by rw [hk,List.drop_of_length_le (by have h:=h12;simp only [List.length_range];omega)];rfl),rfl⟩
theorem Fz {a b:Bool} (h:a=b):AV.d (.raw (.bool a))= .d (.raw (.bool b)):=by rw [h]
theorem IQ {α:Type} {p:α ->Bool}:∀{l:List α} {k:Nat} (hk:k<l.length),(∀x∈l.take k,p x=false) ->p l[k]=true ->l.findIdx? p=some k
 | a::l,0,_,_,h=>by simp at h;simp [List.findIdx?_cons,h]
 | a::l,k+1,hk,h0,h=>by
  have h1:p a=false:=h0 a (by simp);have:=IQ (l:=l) (k:=k) (by simpa using hk) (fun x hx=>h0 x (by simp [hx])) (by simpa using h)
  simp [List.findIdx?_cons,h1,this]
theorem KI {α:Type} {p:α ->Bool} {l:List α} (h:∀x∈l,p x=false):l.findIdx? p=none:=by
 rw [List.findIdx?_eq_none_iff];exact h
def ixF (p:Int ->Bool) (l:List Int):Int:=match l.findIdx? p with
 | some k=>k
 | none=> -1
theorem ixF_nn {p:Int ->Bool} {l:List Int}:0≤ixF p l↔l.any p=true:=by
 unfold ixF
 cases h:l.findIdx? p with
 | none=>
  rw [List.findIdx?_eq_none_iff] at h;simp only [List.any_eq_true]
  constructor
  ·intro h';omega
  ·rintro ⟨x,hx,hp⟩;rw [h x hx] at hp;cases hp
 | some k=>
  have:=List.findIdx?_isSome (xs:=l) (p:=p);rw [h] at this;simp only [Option.isSome_some] at this
  simp [←this]
abbrev HM (S:List Int):Hp:=[(910,[.blk 173 [.map 911 0]]),(911,[CL AH BJ (Ba S)])]
def Jv (S:List Int) (x:Int):Bool:=!decide (x∈S)
theorem chk1_c (S:List Int) (x:Int):A2 Tryz.prog 138 [.d (AH x),.ptr 910 0 0] (HM S) fun r H'=>r= .d (BJ (Jv S x))∧H'=HM S:=by
 refine B2 Tryz.func138 Z Z Tryz.ntmps138 Z Z Z fun F hF=>(AF (AJ (AD Z Z (AG (AF (AJ ?_))))))
 first | refine J (AY Z Z Js rfl) ?_ | refine J (AW Z Z Z Js rfl) ?_ | refine J (AX Z Z (rfl) rfl Js rfl) ?_
 refine AC Z Z (J (LC (Ba S) (x) (false) _ Z Z Z Mj KB za4 Z Z) ?_);rw [EE]
 first | refine J (GZ Z Z) ?_ | refine J (GP Z Z) ?_
 refine AD Z Z (AG (Ae ?_));exact ⟨_,[910,911],_,Aa rfl,rfl,rfl,by first | exact Fz (by unfold Jv;simp) | rfl,rfl⟩
theorem YJ (S l:List Int) (hl:l.length≤100000000):A2 Tryz.prog 95 [.d (.sl none (l.map AH)),.fn 138 [.ptr 910 0 0]] (HM S) fun r H'=>r= .d (AH (ixF (Jv S) l))∧H'=HM S:=by
 refine B2 Tryz.func95 Z Z Tryz.ntmps95 Z Z Z fun F hF=>(AF (AJ (AD Z Z (AG (AF (AF (AJ (AC Z Z ?_))))))))
 first | refine J (Cz rfl Tryz.underlying33 rfl) ?_ | refine J (C9 Z Z Tryz.underlying33 rfl) ?_ | refine J (DB rfl Tryz.underlying33 rfl) ?_ | refine J (Cy rfl Tryz.underlying33 rfl) ?_ | refine J (Cr rfl Tryz.underlying33 rfl) ?_ | refine J (Cw rfl Tryz.underlying33 rfl) ?_
 refine AC Z Z (AG (Al (DG (α:=Nat) (fun k=>⟨19,[(0,.d (.sl none (l.map AH))),(1,.fn 138 [.ptr 910 0 0]),(7,(.d (AH (l.length:Int)))),(8,(.d (AH (k:Int))))],HM S⟩) (fun k=>k≤l.length∧∀x∈l.take k,Jv S x=false) (fun k=>l.length - k) (0) (⟨Nat.zero_le _,by simp⟩) (BA hF [910,911] Z Z ⟨rfl,rfl,rfl,rfl,trivial⟩) ?_)));rintro k ⟨hk0,hk⟩;refine AF (AJ ?_)
 first | refine J (CD Z Z Z) ?_ | refine J (CE Z Z Z) ?_
 refine AG (AF ?_)
 first | refine Ay rfl (fun h9=>?_) (fun h9=>?_) | refine At rfl (fun h9=>?_) (fun h9=>?_)
 ·have hk1:k<l.length:=DA h9;refine Ak (AF (Al (AF ?_)));refine AJ (AC Z Z (AD Z Z (AG (AF (AJ (AC Z Z (AC Z Z (AC Z Z ?_))))))))
  first | refine J (CT (k) Z Z (rfl) (A0 hk1) Tryz.underlying33 rfl Ep rfl) ?_ | refine J (CU (k) Z Z (rfl) (A0 hk1) rfl Tryz.underlying33 Ep rfl) ?_
  first | refine J (AY Z Z Ab rfl) ?_ | refine J (AW Z Z Z Ab rfl) ?_ | refine J (AX Z Z (rfl) rfl Ab rfl) ?_
  refine U (D6 (chk1_c S l[k]) rfl [910,911] ⟨rfl,rfl,trivial⟩ Z Z Z Z Z Z Z Z Z) (AG ?_)
  first | refine Ay rfl (fun h16=>?_) (fun h16=>?_) | refine At rfl (fun h16=>?_) (fun h16=>?_)
  ·refine AF (AJ (AC Z Z (AD Z Z (AG (Ae ?_)))));exact ⟨_,[910,911],_,Aa rfl,rfl,rfl,Aj (by unfold ixF;rw [IQ hk1 hk (by simpa using h16)]),rfl⟩
  ·refine Ak (AJ (J (Bi Z Z (Ac (k+1) (by omega)) rfl) (AC Z Z (AG ?_))));exact ⟨k+1,⟨by show k+1≤_;omega,by rw [List.take_succ_eq_append_getElem hk1];intro x hx;rcases List.mem_append.1 hx with hx | hx;exact hk x hx;rw [List.mem_singleton.1 hx];simpa using h16⟩,by show l.length - (k+1)<l.length - k;omega,BA hF [910,911] rfl (rfl) ⟨rfl,rfl,rfl,rfl,trivial⟩⟩
 ·refine CW (AF (AJ (AD Z Z (AG (Ae ?_)))));exact ⟨_,[910,911],_,Aa rfl,rfl,rfl,Aj (by unfold ixF;rw [KI (fun x hx=>hk x (by rw [List.take_of_length_le (by have h:=h9;omega)];exact hx))]),rfl⟩
theorem Rg (S l:List Int) (hl:l.length≤100000000):A2 Tryz.prog 84 [.d (.sl none (l.map AH)),.fn 138 [.ptr 910 0 0]] (HM S) fun r H'=>r= .d (BJ (l.any (Jv S)))∧H'=HM S:=by
 refine B2 Tryz.func84 Z Z Tryz.ntmps84 Z Z Z fun F hF=>(AF (AJ (AD Z Z (AG ?_))));refine AF (AJ (AC Z Z (AC Z Z (U (Fp (YJ S l hl) rfl [910,911] ⟨rfl,rfl,trivial⟩ Z Z Z Z Z Z Z Z Z) (J (G7 Z Z Z) (AD Z Z (AG (Ae ?_))))))));exact ⟨_,[910,911],_,Aa rfl,rfl,rfl,Fz (by rw [Bool.eq_iff_iff,decide_eq_true_eq];exact ixF_nn),rfl⟩
def itm0:AT:=⟨0,0,0,[],[],[]⟩
def Nn (l:List AT) (k:Nat):Int:=if BV (l.getD k itm0)≠0 then BV (l.getD k itm0) else if (l.getD k itm0).id∈(l.take k).map AT.id∨(l.getD k itm0).sq∈(l.take k).map AT.sq then 7 else 0
def Fj (l:List AT):Int:=Bl ((List.range l.length).map (Nn l))
def TM (S:List Int) (i:AT):Int:=if i.af.any (Jv S)=true then 9 else 0
def Py (l:List AT):Int:=Bl (l.map (TM (l.map AT.id)))
def Ao (p:Prb):Int:=if 4096<p.it.length∨16384<p.ro.length then 8 else Bl [D9 p.ro,Fj p.it,Py p.it]
theorem prbE_r {p:Prb} (h:¬(4096<p.it.length∨16384<p.ro.length)) (h2:D9 p.ro≠0):D9 p.ro=Ao p:=by unfold Ao;rw [if_neg h];simp only [Bl];rw [if_neg h2]
theorem Sk {p:Prb} (h:¬(4096<p.it.length∨16384<p.ro.length)) (h1:D9 p.ro=0) {e:Int} (h2:e=Fj p.it) (h3:e≠0):e=Ao p:=by unfold Ao;rw [if_neg h];simp only [Bl];rw [if_pos h1,if_neg (by rw [←h2];exact h3),h2]
theorem XJ {p:Prb} (h:¬(4096<p.it.length∨16384<p.ro.length)) (h1:D9 p.ro=0) (h2:Fj p.it=0) {e:Int} (h3:e=Py p.it):e=Ao p:=by unfold Ao;rw [if_neg h];simp only [Bl];rw [if_pos h1,if_pos h2,h3];split<;>simp_all
def D1 (p:Prb):Prop:=p.ro.length≤100000∧p.it.length≤100000∧∀i∈p.it,i.po.length≤100000∧i.pa.length≤100000∧i.af.length≤100000
theorem HY (p:Prb) (hb:D1 p):AU Tryz.prog 76 [.d (Cc p)] (AH (Ao p)):=by
 obtain ⟨g1,g2,g3⟩:=hb;refine B2 Tryz.func76 Z Z Tryz.ntmps76 Z Z Z fun F hF=>(AF (AJ (U (C5 1 Z Z Z Z Z Z Z) (AD Z Z (AG (AF (AF (AJ ?_))))))))
 first | refine J (AM rfl CP Z Z Z) ?_ | refine J (AO rfl CP Z Z Z) ?_ | refine J (AP rfl CP Z Z Z) ?_ | refine J (AN rfl CP Z Z Z) ?_ | refine J (AL rfl CP Z Z Z) ?_
 first | refine J (AY Z Z Bh rfl) ?_ | refine J (AW Z Z Z Bh rfl) ?_ | refine J (AX Z Z (rfl) rfl Bh rfl) ?_
 first | refine J (Cz rfl Tryz.underlying29 rfl) ?_ | refine J (C9 Z Z Tryz.underlying29 rfl) ?_ | refine J (DB rfl Tryz.underlying29 rfl) ?_ | refine J (Cy rfl Tryz.underlying29 rfl) ?_ | refine J (Cr rfl Tryz.underlying29 rfl) ?_ | refine J (Cw rfl Tryz.underlying29 rfl) ?_
 first | refine J (Ca Z Z Z) ?_ | refine J (SB Z Z Z) ?_
 refine AC Z Z ?_
 first | refine I5 15 rfl (fun h15=>?_) (fun h15=>?_) | refine Hw 15 rfl (fun h15=>?_) (fun h15=>?_)
 ·refine A8 Z Z Z Z (A8 Z Z Z Z (A8 Z Z Z Z ?_));refine A8 Z Z Z Z (J (DX Z Z Z Z) (AG (EB Z Z (AF (AJ (AD Z Z (AG (Ae ?_))))))));exact ⟨_,[],[],Aa rfl,rfl,rfl,Aj (by unfold Ao;rw [if_pos (by omega)]),rfl⟩
 ·refine A9 Z Z Z ?_
  first | refine J (AM rfl Hr Z Z Z) ?_ | refine J (AO rfl Hr Z Z Z) ?_ | refine J (AP rfl Hr Z Z Z) ?_ | refine J (AN rfl Hr Z Z Z) ?_ | refine J (AL rfl Hr Z Z Z) ?_
  refine A9 Z Z Z ?_
  first | refine J (AY Z Z HF rfl) ?_ | refine J (AW Z Z Z HF rfl) ?_ | refine J (AX Z Z (rfl) rfl HF rfl) ?_
  refine A9 Z Z Z ?_
  first | refine J (Cz rfl Tryz.underlying28 rfl) ?_ | refine J (C9 Z Z Tryz.underlying28 rfl) ?_ | refine J (DB rfl Tryz.underlying28 rfl) ?_ | refine J (Cy rfl Tryz.underlying28 rfl) ?_ | refine J (Cr rfl Tryz.underlying28 rfl) ?_ | refine J (Cw rfl Tryz.underlying28 rfl) ?_
  refine A9 Z Z Z ?_
  first | refine J (Ca Z Z Z) ?_ | refine J (SB Z Z Z) ?_
  refine J (EC Z Z Z Z) (AG ?_)
  first | refine Ay rfl (fun h20=>?_) (fun h20=>?_) | refine At rfl (fun h20=>?_) (fun h20=>?_)
  ·refine AF (AJ (AD Z Z (AG (Ae ?_))));exact ⟨_,[],[],Aa rfl,rfl,rfl,Aj (by unfold Ao;rw [if_pos (by omega)]),rfl⟩
  ·refine Ak (AF (AF ?_));have hsz:¬(4096<p.it.length∨16384<p.ro.length):=by omega
   refine AJ ?_
   first | refine J (Av Z Z A4 rfl) ?_ | refine J (Aw Z Z A4 Z Z Z) ?_ | refine J (Ax Z Z (rfl) rfl A4 rfl) ?_
   refine J (B1 (rooms_p p g1) Z Z) (AD Z Z (AG (AF (AJ (AC Z Z ?_)))))
   first | refine J (Fa Z Z Z) ?_ | refine J (F9 Z Z Z) ?_ | refine J (FM Z Z Z) ?_ | refine J (Fb Tryz.underlying34 Z Z Z) ?_ | refine J (Fd Tryz.underlying34 Z Z Z) ?_ | refine J (st_neqN Tryz.underlying34 Z Z) ?_ | refine J (Fc Tryz.underlying34 Z Z Z) ?_ | refine J (st_neqFN Tryz.underlying34 Z Z) ?_
   refine AG ?_
   first | refine Ay rfl (fun h24=>?_) (fun h24=>?_) | refine At rfl (fun h24=>?_) (fun h24=>?_)
   ·refine AF (AJ (AC Z Z (AD Z Z (AG (Ae ?_)))));exact ⟨_,[],[],Aa rfl,rfl,rfl,Aj (prbE_r hsz h24),rfl⟩
   ·refine Ak (AF ?_);have hr0:D9 p.ro=0:=by simpa using h24
    refine AJ ?_;refine U (Ys 2 Z Z Z Z) (U (Ys 3 Z Z Z Z) (U (DO 4 zl173 Z Z Z Z) (U (CF Z Z Z Z Z Z Z sz173) (AD Z Z (AG (AF (AF (AJ ?_))))))))
    first | refine J (AM rfl CP Z Z Z) ?_ | refine J (AO rfl CP Z Z Z) ?_ | refine J (AP rfl CP Z Z Z) ?_ | refine J (AN rfl CP Z Z Z) ?_ | refine J (AL rfl CP Z Z Z) ?_
    first | refine J (AY Z Z Bh rfl) ?_ | refine J (AW Z Z Z Bh rfl) ?_ | refine J (AX Z Z (rfl) rfl Bh rfl) ?_
    first | refine J (Cz rfl Tryz.underlying29 rfl) ?_ | refine J (C9 Z Z Tryz.underlying29 rfl) ?_ | refine J (DB rfl Tryz.underlying29 rfl) ?_ | refine J (Cy rfl Tryz.underlying29 rfl) ?_ | refine J (Cr rfl Tryz.underlying29 rfl) ?_ | refine J (Cw rfl Tryz.underlying29 rfl) ?_
    refine AC Z Z (AG (Al (DG (α:=Nat) (fun k=>⟨69,[(1,(.ptr 1 0 0)),(4,(.ptr 4 0 0)),(5,(.map 3 0)),(29,(.d (.sl none (p.it.map BH)))),(30,(.d (AH (p.it.length:Int)))),(31,(.d (AH (k:Int))))],[(1,[.blk 31 [.d (.sl none (p.ro.map Ff)),.d (.sl none (p.it.map BH))]]),(4,[.blk 173 [.map 2 0]]),(2,[CL AH BJ (Ba ((p.it.take k).map AT.id))]),(3,[CL AH BJ (Ba ((p.it.take k).map AT.sq))])]⟩) (fun k=>k≤p.it.length∧Fj p.it=Bl (((List.range p.it.length).drop k).map (Nn p.it))) (fun k=>p.it.length - k) (0) (⟨Nat.zero_le _,rfl⟩) (BA hF [1,4,2,3] Z Z ⟨rfl,rfl,rfl,rfl,rfl,rfl,trivial⟩) ?_)));rintro k ⟨hk0,hk⟩;refine AF (AJ ?_)
    first | refine J (CD Z Z Z) ?_ | refine J (CE Z Z Z) ?_
    refine AG (AF ?_)
    first | refine Ay rfl (fun h32=>?_) (fun h32=>?_) | refine At rfl (fun h32=>?_) (fun h32=>?_)
    ·have hk1:k<p.it.length:=DA h32;refine Ak (AF (Al (AF (AJ ?_))));have hE:=FV hk1 hk;have hgd:=Bd itm0 hk1;have hgi:=g3 _ (List.getElem_mem hk1)
     first | refine J (CT (k) Z Z (rfl) (A0 hk1) Tryz.underlying29 rfl C6 rfl) ?_ | refine J (CU (k) Z Z (rfl) (A0 hk1) rfl Tryz.underlying29 C6 rfl) ?_
     first | refine J (Av Z Z Af rfl) ?_ | refine J (Aw Z Z Af Z Z Z) ?_ | refine J (Ax Z Z (rfl) rfl Af rfl) ?_
     refine U (DO 5 FG Z Z Z Z) (U (CF Z Z Z Z Z Z Z C6) (AG (AF (AF (AJ ?_)))))
     first | refine J (Av Z Z Af rfl) ?_ | refine J (Aw Z Z Af Z Z Z) ?_ | refine J (Ax Z Z (rfl) rfl Af rfl) ?_
     refine J (B1 (KR p.it[k] (by omega) (by omega) (by omega)) Z Z) (AD Z Z (AG (AF (AJ (AC Z Z ?_)))))
     first | refine J (Fa Z Z Z) ?_ | refine J (F9 Z Z Z) ?_ | refine J (FM Z Z Z) ?_ | refine J (Fb Tryz.underlying34 Z Z Z) ?_ | refine J (Fd Tryz.underlying34 Z Z Z) ?_ | refine J (st_neqN Tryz.underlying34 Z Z) ?_ | refine J (Fc Tryz.underlying34 Z Z Z) ?_ | refine J (st_neqFN Tryz.underlying34 Z Z) ?_
     refine AG ?_
     first | refine Ay rfl (fun h38=>?_) (fun h38=>?_) | refine At rfl (fun h38=>?_) (fun h38=>?_)
     ·refine AF (AJ (AC Z Z (AD Z Z (AG (Ae ?_)))));exact ⟨_,[],[],Aa rfl,rfl,rfl,Aj (Sk hsz hr0 (hE.2 _ (by unfold Nn;rw [hgd,if_pos h38]) h38) h38),rfl⟩
     ·refine Ak (AF (AF (AJ ?_)))
      first | refine J (AY Z Z Js rfl) ?_ | refine J (AW Z Z Z Js rfl) ?_ | refine J (AX Z Z (rfl) rfl Js rfl) ?_
      first | refine J (AM rfl Bm Z Z Z) ?_ | refine J (AO rfl Bm Z Z Z) ?_ | refine J (AP rfl Bm Z Z Z) ?_ | refine J (AN rfl Bm Z Z Z) ?_ | refine J (AL rfl Bm Z Z Z) ?_
      first | refine J (AY Z Z Ab rfl) ?_ | refine J (AW Z Z Z Ab rfl) ?_ | refine J (AX Z Z (rfl) rfl Ab rfl) ?_
      refine J (LC (Ba ((p.it.take k).map AT.id)) (p.it[k].id) (false) _ Z Z Z Mj KB za4 Z Z) ?_;rw [EE];refine AC Z Z ?_
      first | refine I5 44 rfl (fun h44=>?_) (fun h44=>?_) | refine Hw 44 rfl (fun h44=>?_) (fun h44=>?_)
      ·refine A8 Z Z Z Z (A8 Z Z Z Z (A8 Z Z Z Z ?_));refine A8 Z Z Z Z (J (DX Z Z Z Z) (AG (EB Z Z (AF (AJ (AD Z Z (AG (Ae ?_))))))));exact ⟨_,[],[],Aa rfl,rfl,rfl,Aj (Sk hsz hr0 (hE.2 7 (by unfold Nn;rw [hgd,if_neg h38,if_pos (by simp_all)]) (by decide)) (by decide)),rfl⟩
      ·refine A9 Z Z Z (AC Z Z (A9 Z Z Z ?_))
       first | refine J (AM rfl G1 Z Z Z) ?_ | refine J (AO rfl G1 Z Z Z) ?_ | refine J (AP rfl G1 Z Z Z) ?_ | refine J (AN rfl G1 Z Z Z) ?_ | refine J (AL rfl G1 Z Z Z) ?_
       refine A9 Z Z Z ?_
       first | refine J (AY Z Z Ab rfl) ?_ | refine J (AW Z Z Z Ab rfl) ?_ | refine J (AX Z Z (rfl) rfl Ab rfl) ?_
       refine A9 Z Z Z (J (LC (Ba ((p.it.take k).map AT.sq)) (p.it[k].sq) (false) _ Z Z Z Mj KB za4 Z Z) ?_);rw [EE];refine J (EC Z Z Z Z) (AG ?_)
       first | refine Ay rfl (fun h49=>?_) (fun h49=>?_) | refine At rfl (fun h49=>?_) (fun h49=>?_)
       ·refine AF (AJ (AD Z Z (AG (Ae ?_))));exact ⟨_,[],[],Aa rfl,rfl,rfl,Aj (Sk hsz hr0 (hE.2 7 (by unfold Nn;rw [hgd,if_neg h38,if_pos (by simp_all)]) (by decide)) (by decide)),rfl⟩
       ·refine Ak ?_;have n1:p.it[k].id∉(p.it.take k).map AT.id:=by simp_all
        have n2:p.it[k].sq∉(p.it.take k).map AT.sq:=by simp_all
        refine Gp [[],[],[1],[],[],[4],[0,1,2],[0,1,2,3,4,5,6]] BF rfl (Hh ?_)
        first | refine AE [4] [4,2] Z Z (fun _=>AB (AY Z Z Js rfl)) ?_ | refine AE [4] [4,2] Z Z (fun _=>AB (AW Z Z Z Js rfl)) ?_ | refine AE [4] [4,2] Z Z (fun _=>AB (AX Z Z (rfl) rfl Js rfl)) ?_
        first | refine AE [7] [] Z Z (fun _=>AB (AM rfl Bm Z Z Z)) ?_ | refine AI [7] Z Z (fun _=>AB (AM rfl Bm Z Z Z)) ?_ | refine AE [7] [] Z Z (fun _=>AB (AO rfl Bm Z Z Z)) ?_ | refine AI [7] Z Z (fun _=>AB (AO rfl Bm Z Z Z)) ?_ | refine AE [7] [] Z Z (fun _=>AB (AP rfl Bm Z Z Z)) ?_ | refine AI [7] Z Z (fun _=>AB (AP rfl Bm Z Z Z)) ?_ | refine AE [7] [] Z Z (fun _=>AB (AN rfl Bm Z Z Z)) ?_ | refine AI [7] Z Z (fun _=>AB (AN rfl Bm Z Z Z)) ?_ | refine AE [7] [] Z Z (fun _=>AB (AL rfl Bm Z Z Z)) ?_ | refine AI [7] Z Z (fun _=>AB (AL rfl Bm Z Z Z)) ?_
        first | refine AE [51] [5] Z Z (fun _=>AB (AY Z Z Ab rfl)) ?_ | refine AE [51] [5] Z Z (fun _=>AB (AW Z Z Z Ab rfl)) ?_ | refine AE [51] [5] Z Z (fun _=>AB (AX Z Z (rfl) rfl Ab rfl)) ?_
        first | refine AE [5] [] Z Z (fun _=>AB (Be Z Z)) ?_ | refine AI [5] Z Z (fun _=>AB (Be Z Z)) ?_
        first | refine AE [7] [] Z Z (fun _=>AB (AM rfl G1 Z Z Z)) ?_ | refine AI [7] Z Z (fun _=>AB (AM rfl G1 Z Z Z)) ?_ | refine AE [7] [] Z Z (fun _=>AB (AO rfl G1 Z Z Z)) ?_ | refine AI [7] Z Z (fun _=>AB (AO rfl G1 Z Z Z)) ?_ | refine AE [7] [] Z Z (fun _=>AB (AP rfl G1 Z Z Z)) ?_ | refine AI [7] Z Z (fun _=>AB (AP rfl G1 Z Z Z)) ?_ | refine AE [7] [] Z Z (fun _=>AB (AN rfl G1 Z Z Z)) ?_ | refine AI [7] Z Z (fun _=>AB (AN rfl G1 Z Z Z)) ?_ | refine AE [7] [] Z Z (fun _=>AB (AL rfl G1 Z Z Z)) ?_ | refine AI [7] Z Z (fun _=>AB (AL rfl G1 Z Z Z)) ?_
        first | refine AE [54] [5] Z Z (fun _=>AB (AY Z Z Ab rfl)) ?_ | refine AE [54] [5] Z Z (fun _=>AB (AW Z Z Z Ab rfl)) ?_ | refine AE [54] [5] Z Z (fun _=>AB (AX Z Z (rfl) rfl Ab rfl)) ?_
        first | refine Gn [50,52] [2] [] Z Z (fun _=>Gq (FR (Ba ((p.it.take k).map AT.id)) (p.it[k].id) (true) Z Z Z Mj KB Z Z)) (.inl ⟨rfl,rfl⟩) Z Z Z Z Z ?_ | refine Gn [50,52] [2] [] Z Z (fun _=>Gq (ED (Ba ((p.it.take k).map AT.id)) (p.it[k].id) (true) Z Z Z Mj KB Z Z)) (.inl ⟨rfl,rfl⟩) Z Z Z Z Z ?_
        refine GR 7 Z Z Z (BC 8 Z Z ?_)
        first | refine U (FR (Ba ((p.it.take k).map AT.sq)) (p.it[k].sq) (true) Z Z Z Mj KB Z Z) ?_ | refine U (ED (Ba ((p.it.take k).map AT.sq)) (p.it[k].sq) (true) Z Z Z Mj KB Z Z) ?_
        refine AG ⟨rfl,?_⟩;refine GQ (AJ (J (Bi Z Z (Ac (k+1) (by omega)) rfl) (AC Z Z (AG ?_))));exact ⟨k+1,⟨by show k+1≤_;omega,hE.1 (by unfold Nn;rw [hgd,if_neg h38,if_neg (by rintro (h | h);exact n1 h;exact n2 h)])⟩,by show p.it.length - (k+1)<p.it.length - k;omega,BA hF [1,4,2,3] rfl (by rw [Cp hk1,Cp hk1,←HQ n1,←HQ n2];rfl) ⟨rfl,rfl,rfl,rfl,rfl,rfl,trivial⟩⟩
    ·refine CW (AF (AF ?_));have hi0:Fj p.it=0:=by rw [hk,List.drop_of_length_le (by have h:=h32;simp only [List.length_range];omega)];rfl
     have hfull:p.it.take k=p.it:=List.take_of_length_le (by have h:=h32;omega);rw [hfull];refine AJ ?_
     first | refine J (AM rfl CP Z Z Z) ?_ | refine J (AO rfl CP Z Z Z) ?_ | refine J (AP rfl CP Z Z Z) ?_ | refine J (AN rfl CP Z Z Z) ?_ | refine J (AL rfl CP Z Z Z) ?_
     first | refine J (AY Z Z Bh rfl) ?_ | refine J (AW Z Z Z Bh rfl) ?_ | refine J (AX Z Z (rfl) rfl Bh rfl) ?_
     first | refine J (Cz rfl Tryz.underlying29 rfl) ?_ | refine J (C9 Z Z Tryz.underlying29 rfl) ?_ | refine J (DB rfl Tryz.underlying29 rfl) ?_ | refine J (Cy rfl Tryz.underlying29 rfl) ?_ | refine J (Cr rfl Tryz.underlying29 rfl) ?_ | refine J (Cw rfl Tryz.underlying29 rfl) ?_
     refine AC Z Z (AG (Al (DG (α:=Nat) (fun k=>⟨69,[(4,(.ptr 4 0 0)),(58,(.d (.sl none (p.it.map BH)))),(59,(.d (AH (p.it.length:Int)))),(60,(.d (AH (k:Int))))],[(4,[.blk 173 [.map 2 0]]),(2,[CL AH BJ (Ba (p.it.map AT.id))])]⟩) (fun k=>k≤p.it.length∧Py p.it=Bl ((p.it.drop k).map (TM (p.it.map AT.id)))) (fun k=>p.it.length - k) (0) (⟨Nat.zero_le _,rfl⟩) (BA hF [4,2] Z Z ⟨rfl,rfl,rfl,rfl,trivial⟩) ?_)));rintro k ⟨hk0,hk⟩;refine AF (AJ ?_)
     first | refine J (CD Z Z Z) ?_ | refine J (CE Z Z Z) ?_
     refine AG (AF ?_)
     first | refine Ay rfl (fun h61=>?_) (fun h61=>?_) | refine At rfl (fun h61=>?_) (fun h61=>?_)
     ·have hk1:k<p.it.length:=DA h61;refine Ak (AF (Al (AF (AJ ?_))));have hE:=Dg hk1 hk;have hgi:=g3 _ (List.getElem_mem hk1)
      first | refine J (CT (k) Z Z (rfl) (A0 hk1) Tryz.underlying29 rfl C6 rfl) ?_ | refine J (CU (k) Z Z (rfl) (A0 hk1) rfl Tryz.underlying29 C6 rfl) ?_
      first | refine J (Av Z Z Af rfl) ?_ | refine J (Aw Z Z Af Z Z Z) ?_ | refine J (Ax Z Z (rfl) rfl Af rfl) ?_
      refine U (DO 6 FG Z Z Z Z) (U (CF Z Z Z Z Z Z Z C6) (AG (AF (AJ ?_))))
      first | refine J (AM rfl El Z Z Z) ?_ | refine J (AO rfl El Z Z Z) ?_ | refine J (AP rfl El Z Z Z) ?_ | refine J (AN rfl El Z Z Z) ?_ | refine J (AL rfl El Z Z Z) ?_
      first | refine J (AY Z Z BO rfl) ?_ | refine J (AW Z Z Z BO rfl) ?_ | refine J (AX Z Z (rfl) rfl BO rfl) ?_
      refine J (Zdb Z Z) (U (Fp ((Rg (p.it.map AT.id) p.it[k].af (by omega)).by [(910,4),(911,2)] rfl) rfl [4,2] ⟨rfl,rfl,trivial⟩ Z Z Z Z Z Z Z Z Z) (AG ?_))
      first | refine Ay rfl (fun h67=>?_) (fun h67=>?_) | refine At rfl (fun h67=>?_) (fun h67=>?_)
      ·refine AF (AJ (AD Z Z (AG (Ae ?_))));exact ⟨_,[],[],Aa rfl,rfl,rfl,Aj (XJ hsz hr0 hi0 (hE.2 9 (by unfold TM;rw [if_pos (by simpa using h67)]) (by decide))),rfl⟩
      ·refine Ak (AJ (J (Bi Z Z (Ac (k+1) (by omega)) rfl) (AC Z Z (AG ?_))));exact ⟨k+1,⟨by show k+1≤_;omega,hE.1 (by unfold TM;rw [if_neg (by simpa using h67)])⟩,by show p.it.length - (k+1)<p.it.length - k;omega,BA hF [4,2] rfl (rfl) ⟨rfl,rfl,rfl,rfl,trivial⟩⟩
     ·refine CW (AF (AJ (AD Z Z (AG (Ae ?_)))));exact ⟨_,[],[],Aa rfl,rfl,rfl,Aj (XJ hsz hr0 hi0 (by rw [hk,GG (by have h:=h61;omega)])),rfl⟩
abbrev HV (T:TypeId) (p:Prb):AQ:= .blk T [.d (.sl none (p.ro.map Ff)),.d (.sl none (p.it.map BH))]
theorem Mn {α β:Type} {l:List α} {f:α ->β} {m k:Nat} (hk:k<l.length) (hm:m<k) {b:β} (h:f l[m]=b):b∈(l.take k).map f:=by
 refine List.mem_map.2 ⟨l[m],?_,h⟩;rw [List.mem_take_iff_getElem];exact ⟨m,by omega,rfl⟩
theorem V2 {α β:Type} {l:List α} {f:α ->β} {m:Nat} (hm:m<l.length) {b:β} (h:b∉(l.take m).map f) (h2:f l[m]≠b):b∉(l.take (m+1)).map f:=by
 rw [Cp hm,List.mem_append,List.mem_singleton];rintro (h3 | h3)
 ·exact h h3
 ·exact h2 h3.symm
def Sml (p:Prb):Prop:=p.it.length≤12∧p.ro.length≤24∧∀i∈p.it,i.po.length≤12∧i.pa.length≤12∧i.af.length≤12
instance (p:Prb):Decidable (Sml p):=inferInstanceAs (Decidable (_∧_∧∀i∈p.it,_))
theorem small_p (p:Prb):AU Tryz.prog 8 [.d (Cc p)] (BJ (decide (Sml p))):=by
 refine B2 Tryz.func8 Z Z Tryz.ntmps8 Z Z Z fun F hF=>(AF (AJ (U (C5 1 Z Z Z Z Z Z Z) (AD Z Z (AG (AF (AF (AJ ?_))))))))
 first | refine J (AM rfl G0 Z Z Z) ?_ | refine J (AO rfl G0 Z Z Z) ?_ | refine J (AP rfl G0 Z Z Z) ?_ | refine J (AN rfl G0 Z Z Z) ?_ | refine J (AL rfl G0 Z Z Z) ?_
 first | refine J (AY Z Z EZ rfl) ?_ | refine J (AW Z Z Z EZ rfl) ?_ | refine J (AX Z Z (rfl) rfl EZ rfl) ?_
 first | refine J (Cz rfl Tryz.underlying23 rfl) ?_ | refine J (C9 Z Z Tryz.underlying23 rfl) ?_ | refine J (DB rfl Tryz.underlying23 rfl) ?_ | refine J (Cy rfl Tryz.underlying23 rfl) ?_ | refine J (Cr rfl Tryz.underlying23 rfl) ?_ | refine J (Cw rfl Tryz.underlying23 rfl) ?_
 first | refine J (Ca Z Z Z) ?_ | refine J (SB Z Z Z) ?_
 refine AC Z Z ?_
 first | refine I5 8 rfl (fun h8=>?_) (fun h8=>?_) | refine Hw 8 rfl (fun h8=>?_) (fun h8=>?_)
 ·refine A8 Z Z Z Z (A8 Z Z Z Z (A8 Z Z Z Z ?_));refine A8 Z Z Z Z (J (DX Z Z Z Z) (AG (EB Z Z (AF (AJ (AD Z Z (AG (Ae ?_))))))));exact ⟨_,[],[],Aa rfl,rfl,rfl,PY (fun h=>by have h1:=h.1;have h2:=h.2.1;omega),rfl⟩
 ·refine A9 Z Z Z ?_
  first | refine J (AM rfl DN Z Z Z) ?_ | refine J (AO rfl DN Z Z Z) ?_ | refine J (AP rfl DN Z Z Z) ?_ | refine J (AN rfl DN Z Z Z) ?_ | refine J (AL rfl DN Z Z Z) ?_
  refine A9 Z Z Z ?_
  first | refine J (AY Z Z C8 rfl) ?_ | refine J (AW Z Z Z C8 rfl) ?_ | refine J (AX Z Z (rfl) rfl C8 rfl) ?_
  refine A9 Z Z Z ?_
  first | refine J (Cz rfl Tryz.underlying22 rfl) ?_ | refine J (C9 Z Z Tryz.underlying22 rfl) ?_ | refine J (DB rfl Tryz.underlying22 rfl) ?_ | refine J (Cy rfl Tryz.underlying22 rfl) ?_ | refine J (Cr rfl Tryz.underlying22 rfl) ?_ | refine J (Cw rfl Tryz.underlying22 rfl) ?_
  refine A9 Z Z Z ?_
  first | refine J (Ca Z Z Z) ?_ | refine J (SB Z Z Z) ?_
  refine J (EC Z Z Z Z) (AG ?_)
  first | refine Ay rfl (fun h13=>?_) (fun h13=>?_) | refine At rfl (fun h13=>?_) (fun h13=>?_)
  ·refine AF (AJ (AD Z Z (AG (Ae ?_))));exact ⟨_,[],[],Aa rfl,rfl,rfl,PY (fun h=>by have h1:=h.1;have h2:=h.2.1;omega),rfl⟩
  ·refine Ak (AF (AF (AJ (AD Z Z (AG (Al (DG (α:=Nat) (fun k=>⟨49,[(1,(.ptr 1 0 0)),(3,(.d (AH (k:Int))))],[(1,[HV 25 p])]⟩) (fun k=>k≤p.it.length∧∀i∈p.it.take k,i.po.length≤12∧i.pa.length≤12∧i.af.length≤12) (fun k=>p.it.length - k) (0) (⟨Nat.zero_le _,by simp⟩) (BA hF [1] Z Z ⟨rfl,rfl,trivial⟩) ?_)))))));rintro k ⟨hk0,hk⟩;refine AF (AF (AJ (AC Z Z ?_)))
   first | refine J (AM rfl G0 Z Z Z) ?_ | refine J (AO rfl G0 Z Z Z) ?_ | refine J (AP rfl G0 Z Z Z) ?_ | refine J (AN rfl G0 Z Z Z) ?_ | refine J (AL rfl G0 Z Z Z) ?_
   first | refine J (AY Z Z EZ rfl) ?_ | refine J (AW Z Z Z EZ rfl) ?_ | refine J (AX Z Z (rfl) rfl EZ rfl) ?_
   first | refine J (Cz rfl Tryz.underlying23 rfl) ?_ | refine J (C9 Z Z Tryz.underlying23 rfl) ?_ | refine J (DB rfl Tryz.underlying23 rfl) ?_ | refine J (Cy rfl Tryz.underlying23 rfl) ?_ | refine J (Cr rfl Tryz.underlying23 rfl) ?_ | refine J (Cw rfl Tryz.underlying23 rfl) ?_
   first | refine J (CD Z Z Z) ?_ | refine J (CE Z Z Z) ?_
   refine AG ?_
   first | refine Ay rfl (fun h18=>?_) (fun h18=>?_) | refine At rfl (fun h18=>?_) (fun h18=>?_)
   ·have hk1:k<p.it.length:=DA h18;refine Ak (AF (Al (AF (AJ ?_))))
    first | refine J (AM rfl G0 Z Z Z) ?_ | refine J (AO rfl G0 Z Z Z) ?_ | refine J (AP rfl G0 Z Z Z) ?_ | refine J (AN rfl G0 Z Z Z) ?_ | refine J (AL rfl G0 Z Z Z) ?_
    first | refine J (AY Z Z EZ rfl) ?_ | refine J (AW Z Z Z EZ rfl) ?_ | refine J (AX Z Z (rfl) rfl EZ rfl) ?_
    refine AC Z Z ?_
    first | refine J (CT (k) Z Z (rfl) (A0 hk1) Tryz.underlying23 rfl Nb rfl) ?_ | refine J (CU (k) Z Z (rfl) (A0 hk1) rfl Tryz.underlying23 Nb rfl) ?_
    first | refine J (AM rfl JT Z Z Z) ?_ | refine J (AO rfl JT Z Z Z) ?_ | refine J (AP rfl JT Z Z Z) ?_ | refine J (AN rfl JT Z Z Z) ?_ | refine J (AL rfl JT Z Z Z) ?_
    first | refine J (AY Z Z HD rfl) ?_ | refine J (AW Z Z Z HD rfl) ?_ | refine J (AX Z Z (rfl) rfl HD rfl) ?_
    first | refine J (Cz rfl Tryz.underlying69 rfl) ?_ | refine J (C9 Z Z Tryz.underlying69 rfl) ?_ | refine J (DB rfl Tryz.underlying69 rfl) ?_ | refine J (Cy rfl Tryz.underlying69 rfl) ?_ | refine J (Cr rfl Tryz.underlying69 rfl) ?_ | refine J (Cw rfl Tryz.underlying69 rfl) ?_
    first | refine J (Ca Z Z Z) ?_ | refine J (SB Z Z Z) ?_
    refine AC Z Z ?_
    first | refine I5 29 rfl (fun h29=>?_) (fun h29=>?_) | refine Hw 29 rfl (fun h29=>?_) (fun h29=>?_)
    ·refine A8 Z Z Z Z (A8 Z Z Z Z (A8 Z Z Z Z (A8 Z Z Z Z (A8 Z Z Z Z (A8 Z Z Z Z (A8 Z Z Z Z (A8 Z Z Z Z ?_)))))));refine J (DX Z Z Z Z) (AC Z Z (A8 Z Z Z Z (A8 Z Z Z Z (A8 Z Z Z Z (A8 Z Z Z Z (A8 Z Z Z Z (A8 Z Z Z Z (A8 Z Z Z Z ?_))))))));refine A8 Z Z Z Z (J (DX Z Z Z Z) (AG (EB Z Z (AF (AJ (AD Z Z (AG (Ae ?_))))))));exact ⟨_,[],[],Aa rfl,rfl,rfl,PY (fun h=>by have h1:=h.2.2 _ (List.getElem_mem hk1);omega),rfl⟩
    ·refine A9 Z Z Z ?_
     first | refine J (AM rfl G0 Z Z Z) ?_ | refine J (AO rfl G0 Z Z Z) ?_ | refine J (AP rfl G0 Z Z Z) ?_ | refine J (AN rfl G0 Z Z Z) ?_ | refine J (AL rfl G0 Z Z Z) ?_
     refine A9 Z Z Z ?_
     first | refine J (AY Z Z EZ rfl) ?_ | refine J (AW Z Z Z EZ rfl) ?_ | refine J (AX Z Z (rfl) rfl EZ rfl) ?_
     refine A9 Z Z Z (AC Z Z (A9 Z Z Z ?_))
     first | refine J (CT (k) Z Z (rfl) (A0 hk1) Tryz.underlying23 rfl Nb rfl) ?_ | refine J (CU (k) Z Z (rfl) (A0 hk1) rfl Tryz.underlying23 Nb rfl) ?_
     refine A9 Z Z Z ?_
     first | refine J (AM rfl Oz Z Z Z) ?_ | refine J (AO rfl Oz Z Z Z) ?_ | refine J (AP rfl Oz Z Z Z) ?_ | refine J (AN rfl Oz Z Z Z) ?_ | refine J (AL rfl Oz Z Z Z) ?_
     refine A9 Z Z Z ?_
     first | refine J (AY Z Z Lj rfl) ?_ | refine J (AW Z Z Z Lj rfl) ?_ | refine J (AX Z Z (rfl) rfl Lj rfl) ?_
     refine A9 Z Z Z ?_
     first | refine J (Cz rfl Tryz.underlying70 rfl) ?_ | refine J (C9 Z Z Tryz.underlying70 rfl) ?_ | refine J (DB rfl Tryz.underlying70 rfl) ?_ | refine J (Cy rfl Tryz.underlying70 rfl) ?_ | refine J (Cr rfl Tryz.underlying70 rfl) ?_ | refine J (Cw rfl Tryz.underlying70 rfl) ?_
     refine A9 Z Z Z ?_
     first | refine J (Ca Z Z Z) ?_ | refine J (SB Z Z Z) ?_
     refine J (EC Z Z Z Z) (AC Z Z ?_)
     first | refine I5 39 rfl (fun h39=>?_) (fun h39=>?_) | refine Hw 39 rfl (fun h39=>?_) (fun h39=>?_)
     ·refine A8 Z Z Z Z (A8 Z Z Z Z (A8 Z Z Z Z (A8 Z Z Z Z (A8 Z Z Z Z (A8 Z Z Z Z (A8 Z Z Z Z ?_))))));refine A8 Z Z Z Z (J (DX Z Z Z Z) (AG (EB Z Z (AF (AJ (AD Z Z (AG (Ae ?_))))))));exact ⟨_,[],[],Aa rfl,rfl,rfl,PY (fun h=>by have h1:=h.2.2 _ (List.getElem_mem hk1);omega),rfl⟩
     ·refine A9 Z Z Z ?_
      first | refine J (AM rfl G0 Z Z Z) ?_ | refine J (AO rfl G0 Z Z Z) ?_ | refine J (AP rfl G0 Z Z Z) ?_ | refine J (AN rfl G0 Z Z Z) ?_ | refine J (AL rfl G0 Z Z Z) ?_
      refine A9 Z Z Z ?_
      first | refine J (AY Z Z EZ rfl) ?_ | refine J (AW Z Z Z EZ rfl) ?_ | refine J (AX Z Z (rfl) rfl EZ rfl) ?_
      refine A9 Z Z Z (AC Z Z (A9 Z Z Z ?_))
      first | refine J (CT (k) Z Z (rfl) (A0 hk1) Tryz.underlying23 rfl Nb rfl) ?_ | refine J (CU (k) Z Z (rfl) (A0 hk1) rfl Tryz.underlying23 Nb rfl) ?_
      refine A9 Z Z Z ?_
      first | refine J (AM rfl DE Z Z Z) ?_ | refine J (AO rfl DE Z Z Z) ?_ | refine J (AP rfl DE Z Z Z) ?_ | refine J (AN rfl DE Z Z Z) ?_ | refine J (AL rfl DE Z Z Z) ?_
      refine A9 Z Z Z ?_
      first | refine J (AY Z Z BO rfl) ?_ | refine J (AW Z Z Z BO rfl) ?_ | refine J (AX Z Z (rfl) rfl BO rfl) ?_
      refine A9 Z Z Z ?_
      first | refine J (Cz rfl Tryz.underlying33 rfl) ?_ | refine J (C9 Z Z Tryz.underlying33 rfl) ?_ | refine J (DB rfl Tryz.underlying33 rfl) ?_ | refine J (Cy rfl Tryz.underlying33 rfl) ?_ | refine J (Cr rfl Tryz.underlying33 rfl) ?_ | refine J (Cw rfl Tryz.underlying33 rfl) ?_
      refine A9 Z Z Z ?_
      first | refine J (Ca Z Z Z) ?_ | refine J (SB Z Z Z) ?_
      refine J (EC Z Z Z Z) (AG ?_)
      first | refine Ay rfl (fun h48=>?_) (fun h48=>?_) | refine At rfl (fun h48=>?_) (fun h48=>?_)
      ·refine AF (AJ (AD Z Z (AG (Ae ?_))));exact ⟨_,[],[],Aa rfl,rfl,rfl,PY (fun h=>by have h1:=h.2.2 _ (List.getElem_mem hk1);omega),rfl⟩
      ·refine Ak (AJ (AC Z Z (J (Bi Z Z (Ac (k+1) (by omega)) rfl) (AD Z Z (AG ?_)))));exact ⟨k+1,⟨by show k+1≤_;omega,by rw [List.take_succ_eq_append_getElem hk1];intro i hi;rcases List.mem_append.1 hi with hi | hi;exact hk i hi;rw [List.mem_singleton.1 hi];omega⟩,by show p.it.length - (k+1)<p.it.length - k;omega,BA hF [1] rfl (rfl) ⟨rfl,rfl,trivial⟩⟩
   ·refine CW (AF (AJ (AD Z Z (AG (Ae ?_)))));exact ⟨_,[],[],Aa rfl,rfl,rfl,retT ⟨by omega,by omega,fun i hi=>hk i (by rw [List.take_of_length_le (by have h:=h18;omega)];exact hi)⟩,rfl⟩
def Nm:List AT ->AT ->List AT
 | [],x=> [x]
 | a::l,x=>if ∀y∈a::l,It x y<0 then x::a::l else a::Nm l x
def sortO (l:List AT):List AT:=l.foldl Nm []
theorem YI (l:List AT) (x:AT):(Nm l x).length=l.length+1:=by
 induction l with
 | nil=>rfl
 | cons a l ih=>
  simp only [Nm];split
  ·rfl
  ·simp only [List.length_cons,ih]
theorem Il (l:List AT) (x:AT):sortO (l++ [x])=Nm (sortO l) x:=by simp [sortO]
theorem K3 (l:List AT):(sortO l).length=l.length:=by
 induction l using WO with
 | h0=>rfl
 | h1 l x ih=>rw [Il,YI,ih];simp
def qIds (l:List AT) (r:A5):List Int:=(l.filter fun i=>decide (CJ i r<0)).map AT.id
theorem Rj (l:List Ec) (hl:l.length≤1000000):AU Tryz.prog 92 [.d (.sl none (l.map Cm))] (.sl none (l.map Cm)):=by
 refine B2 Tryz.func92 Z Z Tryz.ntmps92 Z Z Z fun F hF=>(AF ?_);refine AJ (AD Z Z (Ug 2 rfl (AG (AF (AF (AJ (AC Z Z (Gc 3 rfl (fun h0=>?_) ?_))))))))
 ·first | refine J (Ea Z Z Z) ?_ | refine J (E9 Z Z Z) ?_ | refine J (EV Z Z Z) ?_ | refine J (E4 Tryz.underlying46 Z Z Z) ?_ | refine J (E7 Tryz.underlying46 Z Z Z) ?_ | refine J (E6 Tryz.underlying46 Z Z) ?_ | refine J (E5 Tryz.underlying46 Z Z Z) ?_ | refine J (E8 Tryz.underlying46 Z Z) ?_
  refine AG (EB rfl (rfl) (AF (AJ (AD Z Z (Ug 2 rfl (AG (Ae ?_)))))));exact ⟨_,[],[],Aa rfl,rfl,rfl,by first | (rw [h0];done) | (rw [h0]),rfl⟩
 ·first | refine J (Ea Z Z Z) ?_ | refine J (E9 Z Z Z) ?_ | refine J (EV Z Z Z) ?_ | refine J (E4 Tryz.underlying46 Z Z Z) ?_ | refine J (E7 Tryz.underlying46 Z Z Z) ?_ | refine J (E6 Tryz.underlying46 Z Z) ?_ | refine J (E5 Tryz.underlying46 Z Z Z) ?_ | refine J (E8 Tryz.underlying46 Z Z) ?_
  refine AG (Fs rfl (rfl) (Ak (AF (AJ (U (Fq 20 PT Z Z Z Z Z Z Z Z) (AC Z Z ?_))))))
  first | refine U (If (([]:List Ec)) (l) Z Z Z Z Z Z Z Z PT (by simp only [List.length_nil];omega) Z Z Z Z) ?_ | refine U (LD (([]:List Ec)) (l) Z Z Z Z Z Z (fun _=>rfl) PT (by simp only [List.length_nil];omega) Z Z Z Z) ?_
  refine Zdd (emb:=Cm) 7 20 ([]++l) Z Z Z Z Z Z Z (AD Z Z ?_);skip;refine AG (Ae ?_);exact ⟨_,[],[],Aa rfl,rfl,rfl,rfl,rfl⟩
theorem Rh (l:List N1) (hl:l.length≤1000000):AU Tryz.prog 93 [.d (.sl none (l.map HC))] (.sl none (l.map HC)):=by
 refine B2 Tryz.func93 Z Z Tryz.ntmps93 Z Z Z fun F hF=>(AF ?_);refine AJ (AD Z Z (Ug 2 rfl (AG (AF (AF (AJ (AC Z Z (Gc 3 rfl (fun h0=>?_) ?_))))))))
 ·first | refine J (Ea Z Z Z) ?_ | refine J (E9 Z Z Z) ?_ | refine J (EV Z Z Z) ?_ | refine J (E4 Tryz.underlying47 Z Z Z) ?_ | refine J (E7 Tryz.underlying47 Z Z Z) ?_ | refine J (E6 Tryz.underlying47 Z Z) ?_ | refine J (E5 Tryz.underlying47 Z Z Z) ?_ | refine J (E8 Tryz.underlying47 Z Z) ?_
  refine AG (EB rfl (rfl) (AF (AJ (AD Z Z (Ug 2 rfl (AG (Ae ?_)))))));exact ⟨_,[],[],Aa rfl,rfl,rfl,by first | (rw [h0];done) | (rw [h0]),rfl⟩
 ·first | refine J (Ea Z Z Z) ?_ | refine J (E9 Z Z Z) ?_ | refine J (EV Z Z Z) ?_ | refine J (E4 Tryz.underlying47 Z Z Z) ?_ | refine J (E7 Tryz.underlying47 Z Z Z) ?_ | refine J (E6 Tryz.underlying47 Z Z) ?_ | refine J (E5 Tryz.underlying47 Z Z Z) ?_ | refine J (E8 Tryz.underlying47 Z Z) ?_
  refine AG (Fs rfl (rfl) (Ak (AF (AJ (U (Fq 20 Q6 Z Z Z Z Z Z Z Z) (AC Z Z ?_))))))
  first | refine U (If (([]:List N1)) (l) Z Z Z Z Z Z Z Z Q6 (by simp only [List.length_nil];omega) Z Z Z Z) ?_ | refine U (LD (([]:List N1)) (l) Z Z Z Z Z Z (fun _=>rfl) Q6 (by simp only [List.length_nil];omega) Z Z Z Z) ?_
  refine Zdd (emb:=HC) 7 20 ([]++l) Z Z Z Z Z Z Z (AD Z Z ?_);skip;refine AG (Ae ?_);exact ⟨_,[],[],Aa rfl,rfl,rfl,rfl,rfl⟩
theorem Rk (l:List Int) (hl:l.length≤1000000):AU Tryz.prog 94 [.d (.sl none (l.map AH))] (.sl none (l.map AH)):=by
 refine B2 Tryz.func94 Z Z Tryz.ntmps94 Z Z Z fun F hF=>(AF ?_);refine AJ (AD Z Z (Ug 2 rfl (AG (AF (AF (AJ (AC Z Z (Gc 3 rfl (fun h0=>?_) ?_))))))))
 ·first | refine J (Ea Z Z Z) ?_ | refine J (E9 Z Z Z) ?_ | refine J (EV Z Z Z) ?_ | refine J (E4 Tryz.underlying33 Z Z Z) ?_ | refine J (E7 Tryz.underlying33 Z Z Z) ?_ | refine J (E6 Tryz.underlying33 Z Z) ?_ | refine J (E5 Tryz.underlying33 Z Z Z) ?_ | refine J (E8 Tryz.underlying33 Z Z) ?_
  refine AG (EB rfl (rfl) (AF (AJ (AD Z Z (Ug 2 rfl (AG (Ae ?_)))))));exact ⟨_,[],[],Aa rfl,rfl,rfl,by first | (rw [h0];done) | (rw [h0]),rfl⟩
 ·first | refine J (Ea Z Z Z) ?_ | refine J (E9 Z Z Z) ?_ | refine J (EV Z Z Z) ?_ | refine J (E4 Tryz.underlying33 Z Z Z) ?_ | refine J (E7 Tryz.underlying33 Z Z Z) ?_ | refine J (E6 Tryz.underlying33 Z Z) ?_ | refine J (E5 Tryz.underlying33 Z Z Z) ?_ | refine J (E8 Tryz.underlying33 Z Z) ?_
  refine AG (Fs rfl (rfl) (Ak (AF (AJ (U (Fq 20 C7 Z Z Z Z Z Z Z Z) (AC Z Z ?_))))))
  first | refine U (If (([]:List Int)) (l) Z Z Z Z Z Z Z Z C7 (by simp only [List.length_nil];omega) Z Z Z Z) ?_ | refine U (LD (([]:List Int)) (l) Z Z Z Z Z Z (fun _=>rfl) C7 (by simp only [List.length_nil];omega) Z Z Z Z) ?_
  refine Zdd (emb:=AH) 7 20 ([]++l) Z Z Z Z Z Z Z (AD Z Z ?_);skip;refine AG (Ae ?_);exact ⟨_,[],[],Aa rfl,rfl,rfl,rfl,rfl⟩
theorem clone_p (i:AT) (g1:i.po.length≤1000000) (g2:i.pa.length≤1000000) (g3:i.af.length≤1000000):AU Tryz.prog 43 [.d (BH i)] (BH i):=by
 refine B2 Tryz.func43 Z Z Tryz.ntmps43 Z Z Z fun F hF=>(AF (AJ (U (C5 1 Z Z Z Z Z Z Z) (U (DO 2 FG Z Z Z Z) (AG (AF (Gp [[],[0],[0,1],[],[3],[0,1,2,3,4],[],[6],[0,1,2,3,4,5,6,7],[0,1,2,3,4,6,7],[0,1,2,3,4,5,6,7,8,9],[0,1,2,3,4,5,6,7,8,9,10],[0,1,2,3,4,5,6,7,8,9,10,11],[0,1,2,3,4,5,6,7,8,9,10,11,12],[0,1,2,3,4,5,6,7,8,9,10,11,12,13]] BF rfl (Hh ?_))))))))
 first | refine AE [1] [] Z Z (fun _=>AB (AM rfl Dl Z Z Z)) ?_ | refine AI [1] Z Z (fun _=>AB (AM rfl Dl Z Z Z)) ?_ | refine AE [1] [] Z Z (fun _=>AB (AO rfl Dl Z Z Z)) ?_ | refine AI [1] Z Z (fun _=>AB (AO rfl Dl Z Z Z)) ?_ | refine AE [1] [] Z Z (fun _=>AB (AP rfl Dl Z Z Z)) ?_ | refine AI [1] Z Z (fun _=>AB (AP rfl Dl Z Z Z)) ?_ | refine AE [1] [] Z Z (fun _=>AB (AN rfl Dl Z Z Z)) ?_ | refine AI [1] Z Z (fun _=>AB (AN rfl Dl Z Z Z)) ?_ | refine AE [1] [] Z Z (fun _=>AB (AL rfl Dl Z Z Z)) ?_ | refine AI [1] Z Z (fun _=>AB (AL rfl Dl Z Z Z)) ?_
 first | refine AE [3] [1] Z Z (fun _=>AB (AY Z Z Fi rfl)) ?_ | refine AE [3] [1] Z Z (fun _=>AB (AW Z Z Z Fi rfl)) ?_ | refine AE [3] [1] Z Z (fun _=>AB (AX Z Z (rfl) rfl Fi rfl)) ?_
 first | refine AE [4] [] Z Z (fun _=>AB (B1 (Rj i.po g1) Z Z)) ?_ | refine AI [4] Z Z (fun _=>AB (B1 (Rj i.po g1) Z Z)) ?_
 first | refine AE [1] [] Z Z (fun _=>AB (AM rfl FN Z Z Z)) ?_ | refine AI [1] Z Z (fun _=>AB (AM rfl FN Z Z Z)) ?_ | refine AE [1] [] Z Z (fun _=>AB (AO rfl FN Z Z Z)) ?_ | refine AI [1] Z Z (fun _=>AB (AO rfl FN Z Z Z)) ?_ | refine AE [1] [] Z Z (fun _=>AB (AP rfl FN Z Z Z)) ?_ | refine AI [1] Z Z (fun _=>AB (AP rfl FN Z Z Z)) ?_ | refine AE [1] [] Z Z (fun _=>AB (AN rfl FN Z Z Z)) ?_ | refine AI [1] Z Z (fun _=>AB (AN rfl FN Z Z Z)) ?_ | refine AE [1] [] Z Z (fun _=>AB (AL rfl FN Z Z Z)) ?_ | refine AI [1] Z Z (fun _=>AB (AL rfl FN Z Z Z)) ?_
 first | refine AE [6] [1] Z Z (fun _=>AB (AY Z Z HE rfl)) ?_ | refine AE [6] [1] Z Z (fun _=>AB (AW Z Z Z HE rfl)) ?_ | refine AE [6] [1] Z Z (fun _=>AB (AX Z Z (rfl) rfl HE rfl)) ?_
 first | refine AE [7] [] Z Z (fun _=>AB (B1 (Rh i.pa g2) Z Z)) ?_ | refine AI [7] Z Z (fun _=>AB (B1 (Rh i.pa g2) Z Z)) ?_
 first | refine AE [1] [] Z Z (fun _=>AB (AM rfl El Z Z Z)) ?_ | refine AI [1] Z Z (fun _=>AB (AM rfl El Z Z Z)) ?_ | refine AE [1] [] Z Z (fun _=>AB (AO rfl El Z Z Z)) ?_ | refine AI [1] Z Z (fun _=>AB (AO rfl El Z Z Z)) ?_ | refine AE [1] [] Z Z (fun _=>AB (AP rfl El Z Z Z)) ?_ | refine AI [1] Z Z (fun _=>AB (AP rfl El Z Z Z)) ?_ | refine AE [1] [] Z Z (fun _=>AB (AN rfl El Z Z Z)) ?_ | refine AI [1] Z Z (fun _=>AB (AN rfl El Z Z Z)) ?_ | refine AE [1] [] Z Z (fun _=>AB (AL rfl El Z Z Z)) ?_ | refine AI [1] Z Z (fun _=>AB (AL rfl El Z Z Z)) ?_
 first | refine AE [9] [1] Z Z (fun _=>AB (AY Z Z BO rfl)) ?_ | refine AE [9] [1] Z Z (fun _=>AB (AW Z Z Z BO rfl)) ?_ | refine AE [9] [1] Z Z (fun _=>AB (AX Z Z (rfl) rfl BO rfl)) ?_
 first | refine AE [10] [] Z Z (fun _=>AB (B1 (Rk i.af g3) Z Z)) ?_ | refine AI [10] Z Z (fun _=>AB (B1 (Rk i.af g3) Z Z)) ?_
 first | refine AE [1] [] Z Z (fun _=>AB (AM rfl Dl Z Z Z)) ?_ | refine AI [1] Z Z (fun _=>AB (AM rfl Dl Z Z Z)) ?_ | refine AE [1] [] Z Z (fun _=>AB (AO rfl Dl Z Z Z)) ?_ | refine AI [1] Z Z (fun _=>AB (AO rfl Dl Z Z Z)) ?_ | refine AE [1] [] Z Z (fun _=>AB (AP rfl Dl Z Z Z)) ?_ | refine AI [1] Z Z (fun _=>AB (AP rfl Dl Z Z Z)) ?_ | refine AE [1] [] Z Z (fun _=>AB (AN rfl Dl Z Z Z)) ?_ | refine AI [1] Z Z (fun _=>AB (AN rfl Dl Z Z Z)) ?_ | refine AE [1] [] Z Z (fun _=>AB (AL rfl Dl Z Z Z)) ?_ | refine AI [1] Z Z (fun _=>AB (AL rfl Dl Z Z Z)) ?_
 refine GR 10 Z Z Z (BC 11 Z Z (U (CF Z Z Z Z Z Z Z sz46) (AG ⟨rfl,?_⟩)));refine BC 12 Z Z ?_
 first | refine J (AM rfl FN Z Z Z) ?_ | refine J (AO rfl FN Z Z Z) ?_ | refine J (AP rfl FN Z Z Z) ?_ | refine J (AN rfl FN Z Z Z) ?_ | refine J (AL rfl FN Z Z Z) ?_
 refine AG ⟨rfl,?_⟩;refine BC 13 Z Z (U (CF Z Z Z Z Z Z Z sz47) (AG ⟨rfl,?_⟩));refine BC 14 Z Z ?_
 first | refine J (AM rfl El Z Z Z) ?_ | refine J (AO rfl El Z Z Z) ?_ | refine J (AP rfl El Z Z Z) ?_ | refine J (AN rfl El Z Z Z) ?_ | refine J (AL rfl El Z Z Z) ?_
 refine AG ⟨rfl,?_⟩;refine BC 15 Z Z (U (CF Z Z Z Z Z Z Z sz33) (AG ⟨rfl,?_⟩));refine GQ (AF (AJ ?_))
 first | refine J (Av Z Z Af rfl) ?_ | refine J (Aw Z Z Af Z Z Z) ?_ | refine J (Ax Z Z (rfl) rfl Af rfl) ?_
 refine U (CF Z Z Z Z Z Z Z C6) (AG (Ae ?_));exact ⟨_,[],[],Aa rfl,rfl,rfl,rfl,rfl⟩
theorem YM {hp:Hp} {f:Nat} {o:AQ} (h:hfam hp f=none) (hm:Qz o=true:=by rfl):Ct hp f o=some ((f,[o])::hp):=by simp only [Ct,h,hm]
theorem Qm {hp:Hp} {f:Nat} {x:List AQ}:∀{nm:List Nat},memB f nm=false ->An ((f,x)::hp) nm=An hp nm
 | [],_=>rfl
 | g::r,h=>by
  have h1:Nat.beq f g=false:=by
   cases hb:Nat.beq f g with
   | false=>rfl
   | true=>
    have e:=Nat.eq_of_beq_eq_true hb;subst e
    simp [memB] at h
  have h2:memB f r=false:=by
   cases hb:memB f r with
   | false=>rfl
   | true=>simp [memB,hb] at h
  simp only [An];rw [Qm h2];simp only [hfam,h1]
theorem OC (l:List Nat):IY l l=true:=by
 have key:∀(l m:List Nat),(∀x∈l,x∈m) ->IY l m=true:=fun l=>by
  induction l with
  | nil=>intro m _;rfl
  | cons a r ih=>intro m h;simp only [IY,Bool.and_eq_true];exact ⟨Ek.2 (h a (by simp)),ih m fun x hx=>h x (by simp [hx])⟩
 exact key l l fun x hx=>hx
theorem T1 {α β:Type} {step:β ->α ->β×Bool} {b:β} {x:α} {r:List α}:Bv step b (x::r)=if (step b x).2=true then Bv step (step b x).1 r else (step b x).1:=by
 simp only [Bv]
 generalize step b x=y
 obtain ⟨y1,y2⟩:=y
 cases y2<;>rfl
def encI (x:AT):List AV:=[.d (BH x)]
section
variable {β:Type}
theorem seqV_c (its:List AT) (hits:its.length≤1000000) (l:Nat) (H:β ->Hp) (N:List Nat) (step:β ->AT ->β×Bool) (st0:β) (hN:∀st,hpN (H st)=N) (hI:∀st,DM N (H st)=true) (hP:∀st,An (H st) N=some (H st))
  (hk:∀st,A7 990 (H st)=some (H st)) (hz:∀st,hfam (H st) 990=none) (hm:memB 990 N=false)
  (hfe:Co Tryz.prog l encI H step st0 its):
  A2 Tryz.prog 212 [.d (.raw (CG l)),.d (.ptr (.sl none (its.map BH)))] (H st0) fun r H'=>r= .tup []∧H'=H (Bv step st0 its):=by
 refine B2 Tryz.func212 Z Z Tryz.ntmps212 Z Z Z fun F hF=>(AF (AJ ?_))
 first | refine J (AY Z Z Bh rfl) ?_ | refine J (AW Z Z Z Bh rfl) ?_ | refine J (AX Z Z (rfl) rfl Bh rfl) ?_
 first | refine J (Cz rfl Tryz.underlying29 rfl) ?_ | refine J (C9 Z Z Tryz.underlying29 rfl) ?_ | refine J (DB rfl Tryz.underlying29 rfl) ?_ | refine J (Cy rfl Tryz.underlying29 rfl) ?_ | refine J (Cr rfl Tryz.underlying29 rfl) ?_ | refine J (Cw rfl Tryz.underlying29 rfl) ?_
 refine AC Z Z (AG (Al (EQ (α:=Nat×β) (fun p=>⟨16,[(0,.d (.raw (CG l))),(5,(.d (.sl none (its.map BH)))),(6,(.d (AH (its.length:Int)))),(7,(.d (AH (p.1:Int))))],H p.2⟩) (fun p=>p.1≤its.length∧Co Tryz.prog l encI H step p.2 (its.drop p.1)∧Bv step p.2 (its.drop p.1)=Bv step st0 its) (fun p=>its.length - p.1) ((0,st0)) (⟨Nat.zero_le _,hfe,rfl⟩) (Ui ⟨rfl,rfl,rfl,rfl,trivial⟩) ?_)));rintro ⟨k,st⟩ ⟨hk0,hfd,hfin⟩;dsimp only at hk0 hfd hfin⊢;refine AF (AJ ?_)
 first | refine J (CD Z Z Z) ?_ | refine J (CE Z Z Z) ?_
 refine AG (AF ?_)
 first | refine Ay rfl (fun h8=>?_) (fun h8=>?_) | refine At rfl (fun h8=>?_) (fun h8=>?_)
 ·have hk1:k<its.length:=DA h8;refine Ak (AF (Al (AF (AJ ?_))));have hA:its.drop k=its[k]::its.drop (k+1):=List.drop_eq_getElem_cons hk1;rw [hA] at hfd
  first | refine J (CT (k) Z Z (rfl) (A0 hk1) Tryz.underlying29 rfl C6 rfl) ?_ | refine J (CU (k) Z Z (rfl) (A0 hk1) rfl Tryz.underlying29 C6 rfl) ?_
  first | refine J (Av Z Z Af rfl) ?_ | refine J (Aw Z Z Af Z Z Z) ?_ | refine J (Ax Z Z (rfl) rfl Af rfl) ?_
  refine U (DO 990 FG rfl (hk _) (YM (hz _)) rfl) (U (CF Z Z Z Z Z Z Z C6) (AG (AF (AJ (AC Z Z ?_)))))
  first | refine J (Av Z Z Af rfl) ?_ | refine J (Aw Z Z Af Z Z Z) ?_ | refine J (Ax Z Z (rfl) rfl Af rfl) ?_
  refine Sw [0,5,6,7,11,12] rfl (o_only N (hF.trans (hN st0)) (OC N) ((Qm hm).trans (hP _)) (Qx hfd.1 Z Z (by rw [hN,hN]) (by rw [hN];exact hI _) Z Z ?_))
  first | refine J (GZ Z Z) ?_ | refine J (GP Z Z) ?_
  refine AG ?_
  first | refine Ay rfl (fun h14=>?_) (fun h14=>?_) | refine At rfl (fun h14=>?_) (fun h14=>?_)
  ·have hgo:(step st its[k]).2=false:=by simpa using h14
   refine Ae ?_;exact ⟨_,N,_,Aa rfl,hP _,by rw [←hN st0];exact Yt _,rfl,by rw [←hfin,hA,T1,if_neg (by rw [hgo];decide)]⟩
  ·have hgo:(step st its[k]).2=true:=by simpa using h14
   refine Ak (AJ (J (Bi Z Z (Ac (k+1) (by omega)) rfl) (AC Z Z (AG ?_))));exact ⟨(k+1,(step st its[k]).1),⟨by show k+1≤_;omega,hfd.2 hgo,by rw [←hfin,hA,T1,if_pos hgo]⟩,by show its.length - (k+1)<its.length - k;omega,⟨rfl,rfl,fun _ _=>N2.get (l:=[(0,_),(5,_),(6,_),(7,_)]) ⟨rfl,rfl,rfl,rfl,trivial⟩⟩⟩
 ·refine CW ?_;exact ⟨_,N,_,Aa rfl,hP _,by rw [←hN st0];exact Yt _,rfl,by rw [←hfin,List.drop_of_length_le (by have h:=h8;omega)];rfl⟩
end
theorem SR.freezeB {F:Fr} {s:AS} {ρ:Nat ->Nat ->Value} {act:Act} {w:World} (h:SR F s ρ act w) (t f:Nat) (x:D) {T:TypeId} {cs:List AV} {hp':Hp} (nm:List Nat) {pn:List Nat} (hF:F.pn=pn) (ht:get s.env t=some (.ptr f 0 0)) (hone:hfam s.hp f=some [.blk T cs]) (hcs:cs=x.cells.map .d) (hx1:∀c∈x.cells,c.one=true) (hf:memB f nm=false) (hsub:IY pn nm=true) (hpt:An s.hp nm=some hp'):SR F ⟨s.n,(t,.d (.ptr x))::s.env,hp'⟩ ρ act w:=by
 have h1:=h.only nm hF hsub hpt;refine ⟨h1.size,h1.defs,fun t' a ha=>?_,h1.heap⟩;rcases KX ha with ⟨rfl,rfl⟩ | ⟨_,ha⟩
 ·have hr:=h.env t _ ht;have ho:hget s.hp f 0=some (.blk T cs):=by simp [hget,hone,gl,isM]
  obtain ⟨b,us,e1,e2,e3,e4,e5⟩:=h.heap.sim f 0 _ ho;show A3 _ _ _ _ (act.tmps.getD t undef)
  generalize act.tmps.getD t undef=v at hr
  cases hr with
  | @ptr _ _ _ b' hb=>
   rw [e1] at hb;injection hb with hb;injection hb with hb;injection hb with hb;subst hb
   have hO:∀b',F.O ρ hp' b' ->F.O ρ s.hp b':=fun b' hb'=>hb'.imp id fun ⟨f',i',o',q1,q2⟩=>by
    obtain ⟨m1,_⟩:=Db hpt;refine ⟨f',i',o',?_,q2⟩;simp only [hget] at q1⊢
    cases hh:hfam hp' f' with
    | none=>rw [hh] at q1;cases q1
    | some l=>rw [(m1 f' l hh).2];rw [hh] at q1;exact q1
   have hnO:¬F.O ρ hp' b:=fun hb'=>by
    rcases hb' with hb' | ⟨f',i',o',q1,q2⟩
    ·exact h.heap.notOf ⟨f,0,_,ho,by rw [e1];rfl⟩ hb'
    ·obtain ⟨m1,_⟩:=Db hpt;simp only [hget] at q1
     cases hh:hfam hp' f' with
     | none=>rw [hh] at q1;cases q1
     | some l=>
      have q3:hget s.hp f' i'=some o':=by simp only [hget];rw [(m1 f' l hh).2];rw [hh] at q1;exact q1
      obtain ⟨e1',_⟩:=h.heap.inj f' i' f 0 _ _ b q3 ho q2 (by rw [e1];rfl);have:=Ek.2 (m1 f' l hh).1;rw [e1',hf] at this;cases this
   have hlen:us.length=x.cells.length:=by rw [e3,hcs,List.length_map]
   refine .d (.ptr (fun j=>us.getD j undef) (h.heap.ltO (.inr ⟨f,0,_,ho,by rw [e1];rfl⟩)) hnO hx1 (fun j c hj=>?_) (fun j c hj=>?_))
   ·have hj':j<us.length:=by rw [hlen];exact (List.getElem?_eq_some_iff.1 hj).1
    rw [Nat.zero_add,cell_of_row w b j us.toArray T (0,0) e2]
    simp [hj']
   ·have hj':j<us.length:=by rw [hlen];exact (List.getElem?_eq_some_iff.1 hj).1
    have hc:=e4 j (.d c) us[j] (by rw [hcs,List.getElem?_map,hj];rfl) (List.getElem?_eq_getElem hj');have hg:us.getD j undef=us[j]:=by simp [hj']
    rw [hg]
    cases hc with
    | d hc=>exact hc.mono (Nat.le_refl _) (fun _ _ _=>rfl) fun b' _=>hO b'
 ·exact h1.env t' a ha
theorem IF {P:Program} {F:Fr} {Q:Exit ->AS ->Prop} {ops:Array Oper} {l':List Oper} {sn:Nat} {env:List (Nat×AV)} {hp hp':Hp} (t f:Nat) (x:D) {T:TypeId} {cs:List AV} (nm:List Nat) {pn:List Nat} (hF:F.pn=pn) (ht:get env t=some (.ptr f 0 0)) (hone:hfam hp f=some [.blk T cs]) (hcs:cs=x.cells.map .d) (hx1:∀c∈x.cells,c.one=true) (hf:memB f nm=false) (hsub:IY pn nm=true) (hpt:An hp nm=some hp')
  (h:Aq P F ops l' Q ⟨sn,(t,.d (.ptr x))::env,hp'⟩):Aq P F ops l' Q ⟨sn,env,hp⟩:=fun ρ act w hs=>h ρ act w (hs.freezeB t f x nm hF ht hone hcs hx1 hf hsub hpt)
theorem Ow {P:Program} {F:Fr} {Q:Exit ->AS ->Prop} {c:Code} {sn:Nat} {env:List (Nat×AV)} {hp hp':Hp} (t f:Nat) (x:D) {T:TypeId} {cs:List AV} (nm:List Nat) {pn:List Nat} (hF:F.pn=pn) (ht:get env t=some (.ptr f 0 0)) (hone:hfam hp f=some [.blk T cs]) (hcs:cs=x.cells.map .d) (hx1:∀c∈x.cells,c.one=true) (hf:memB f nm=false) (hsub:IY pn nm=true) (hpt:An hp nm=some hp')
  (h:Bt P F c Q ⟨sn,(t,.d (.ptr x))::env,hp'⟩):Bt P F c Q ⟨sn,env,hp⟩:=fun ρ act w hs=>h ρ act w (hs.freezeB t f x nm hF ht hone hcs hx1 hf hsub hpt)
theorem WX (its:List AT):A2 Tryz.prog 183 [.d (.sl none (its.map BH))] [] fun r H'=>r= .fn 212 [.d (.ptr (.sl none (its.map BH)))]∧H'=[]:=by
 refine B2 Tryz.func183 Z Z Tryz.ntmps183 Z Z Z fun F hF=>(AF (AJ (U (C5 1 Z Z Z Z Z Z Z) ?_)));refine AD Z Z (AG (AF (AJ (IF 1 1 (.sl none (its.map BH)) [] hF Z Z Z (by intro c hc;simp [D.cells] at hc;subst hc;rfl) Z Z Z (J (Zdb Z Z) (AD Z Z (AG (Ae ?_))))))));exact ⟨_,[],[],Aa rfl,rfl,rfl,rfl,rfl⟩
abbrev hV (q:List AT):Hp:=[(920,[.rowD 49 6 (q.map BH)]),(1,[.blk 29 [.own 920 0 q.length]])]
def Tl (q:List AT) (x:AT):List AT×Bool:=(q++ [x],true)
theorem R7:∀(l q:List AT),Bv Tl q l=q++l
 | [],q=>by simp [Bv]
 | x::l,q=>by rw [T1];show (if true=true then Bv Tl (q++ [x]) l else _)=_;rw [if_pos rfl,R7 l];simp
theorem Ok {P:Program} {l:Nat} {H:List AT ->Hp} {n:Nat} (hY:∀q x,q.length<n ->ES P l (encI x) (H q) fun v H'=>v= .d (.raw (.bool true))∧H'=H (q++ [x])):∀(xs q:List AT),q.length+xs.length≤n ->Co P l encI H Tl q xs
 | [],_,_=>trivial
 | x::xs,q,h=>⟨hY q x (by simp at h;omega),fun _=>Ok hY xs (q++ [x]) (by simp at h⊢;omega)⟩
theorem Yf (its:List AT) (hits:its.length≤1000000):A2 Tryz.prog 239 [.d (.sl (some true) []),.fn 212 [.d (.ptr (.sl none (its.map BH)))]] [] fun r H'=>r= .own 920 0 its.length∧H'=[(920,[.rowD 49 6 (its.map BH)])]:=by
 refine Hq Tryz.func239 Z Z Tryz.ntmps239 Z Z Z fun F hF hFl=>(AF (AJ (U (C5 1 Z Z Z Z Z Z Z) ?_)));refine AD Z Z (AG (AF (AF (Cv 1 0 0 920 Lg Z Z Z Z Z Z Z (AJ (AC Z Z (AG (Al ?_))))))));refine QA [2,6] rfl ?_;refine ME (γ:=Unit) hFl 900 Z Z Z Z Z [1,920] (CHr:=hV []) (fun _=>True) (fun _=>hV its) (fun _=> .ready) (fun _=>none) ⟨rfl,rfl,trivial⟩ Z Z Z (fun _=>rfl) (fun _=>rfl) rfl (fun _ _=>by simp) (fun _ _=>⟨rfl,rfl⟩) [920,1] hF Z Z (fun _ _=>rfl) (fun l A B hA hB=>?_) (fun _ _=>?_)
 ·refine (seqV_c its hits l (fun q:List AT=>(900,[.loop ⟨l,13,[(2,.ptr 1 0 0),(6,.fn 212 [.d (.ptr (.sl none (its.map BH)))])],.ready,none, #[7],A,B⟩])::hV q) [900,920,1] Tl [] (fun _=>rfl) (fun _=>rfl) (fun _=>rfl) (fun _=>rfl) (fun _=>rfl) rfl ?_).mono (fun r H' ⟨e1,e2⟩=>⟨e1,(),trivial,by rw [e2,R7];rfl⟩);refine Ok (n:=its.length) (fun q x hq=>?_) its [] (by simp);refine J2 (lf:=900) Z Z Z Z fun F hF hr=>?_;show Bt _ _ A _ _;rw [hA];refine AJ (U (DO 2 FG Z Z Z Z) (U (CF Z Z Z Z Z Z Z C6) (AG (⟨rfl,_,_,rfl,rfl,rfl,rfl,?_⟩))));show Bt _ _ B _ _;rw [hB];refine Al (AJ ?_)
  first | refine J (AY Z Z Bh rfl) ?_ | refine J (AW Z Z Z Bh rfl) ?_ | refine J (AX Z Z (rfl) rfl Bh rfl) ?_
  first | refine J (Av Z Z Af rfl) ?_ | refine J (Aw Z Z Af Z Z Z) ?_ | refine J (Ax Z Z (rfl) rfl Af rfl) ?_
  refine U (Fq 30 Lg Z Z Z Z Z Z Z Z) ?_
  first | refine U (If (q) ([x]) Z Z Z Z Z Z Z Z Lg (by simp only [List.length_singleton];omega) Z Z Z Z) ?_ | refine U (LD (q) ([x]) Z Z Z Z Z Z (fun _=>rfl) Lg (by simp only [List.length_singleton];omega) Z Z Z Z) ?_
  refine U (CF Z Z Z Z Z Z Z sz29) (AG ?_);exact ⟨none,_,_,[900,920,1],_,rfl,rfl,rfl,rfl,rfl,rfl,rfl,rfl⟩
 ·refine AF (AJ ?_)
  first | refine J (AY Z Z Bh rfl) ?_ | refine J (AW Z Z Z Bh rfl) ?_ | refine J (AX Z Z (rfl) rfl Bh rfl) ?_
  refine AD Z Z (AG (Ae ?_));exact ⟨_,[920],_,Aa rfl,rfl,rfl,rfl,rfl⟩
theorem insO_perm (l:List AT) (x:AT):(Nm l x).Perm (x::l):=by
 induction l with
 | nil=>exact List.Perm.refl _
 | cons a l ih=>
  simp only [Nm];split
  ·exact List.Perm.refl _
  ·exact (List.Perm.cons a ih).trans (List.Perm.swap x a l)
theorem R0 {l:List AT} (h:l.Pairwise fun a b=>¬It b a<0) (x:AT):(Nm l x).Pairwise fun a b=>¬It b a<0:=by
 induction l with
 | nil=>simp [Nm]
 | cons a l ih=>
  rw [List.pairwise_cons] at h;simp only [Nm]
  split
  ·rename_i hall
   exact List.pairwise_cons.2 ⟨fun y hy=>by have h1:=hall y hy;have h2:=Dr.anti x y;omega,List.pairwise_cons.2 h⟩
  ·rename_i hn
   refine List.pairwise_cons.2 ⟨fun y hy=>?_,ih h.2⟩;rcases List.mem_cons.1 ((insO_perm l x).mem_iff.1 hy) with rfl | hy
   ·intro hlt;refine hn fun z hz=>?_;rcases List.mem_cons.1 hz with rfl | hz
    ·exact hlt
    ·have h1:=h.1 z hz;have h2:=Dr.anti a z
     by_cases e:It a z=0
     ·have h3:=Dr.eqv a z y e;have h4:=Dr.anti a y;have h5:=Dr.anti z y;omega
     ·exact Dr.trans _ _ _ hlt (by omega)
   ·exact h.1 y hy
theorem QD (l:List AT):(sortO l).Perm l:=by
 induction l using WO with
 | h0=>exact List.Perm.refl _
 | h1 l x ih=>
  rw [Il];exact (insO_perm _ x).trans ((List.Perm.cons x ih).trans (List.perm_append_comm (l₁:=[x]) (l₂:=l)))
theorem Jf (l:List AT):(sortO l).Pairwise fun a b=>¬It b a<0:=by
 induction l using WO with
 | h0=>exact List.Pairwise.nil
 | h1 l x ih=>rw [Il];exact R0 ih x
theorem VW {a b:AT} (h:It a b=0):a.sq=b.sq:=by
 unfold It at h;simp only [Bl] at h
 split at h
 ·split at h
  ·rename_i h2;exact IT.1 h2
  ·contradiction
 ·contradiction
theorem OD {l:List AT} (hn:(l.map AT.sq).Nodup) (h:l.Pairwise fun a b=>¬It b a<0):l.Pairwise fun a b=>It a b<0:=by
 rw [List.Nodup,List.pairwise_map] at hn;refine (h.and hn).imp fun {a b} ⟨g1,g2⟩=>?_;have h1:=Dr.anti a b;have h2:It a b≠0:=fun e=>g2 (VW e);omega
theorem UG {its ys:List AT} (hn:(its.map AT.sq).Nodup) (h1:ys.Perm its) (h2:ys.Pairwise fun a b=>¬It b a<0):ys=sortO its:=
 D4 (R:=fun a b=>It a b<0) (fun x=>by rw [Dr.refl];omega) (fun x y z=>Dr.trans x y z) (OD ((h1.map _).nodup_iff.2 hn) h2) (OD (((QD its).map _).nodup_iff.2 hn) (Jf its)) fun x=>by rw [h1.mem_iff,(QD its).mem_iff]
theorem YE (x:AT):∃cs,BH x= .agg cs:=⟨_,rfl⟩
abbrev seqA (its:List AT):AV:= .fn 212 [.d (.ptr (.sl none (its.map BH)))]
theorem Vv (its:List AT) (hits:its.length≤1000000):A2 Tryz.prog 211 [seqA its] [] fun r H'=>r= .own 920 0 its.length∧H'=[(920,[.rowD 49 6 (its.map BH)])]:=by
 refine B2 Tryz.func211 Z Z Tryz.ntmps211 Z Z Z fun F hF=>(AF (AJ ?_));refine AD Z Z (AG (AF (AJ (AC Z Z (U (Fp (Yf its hits) rfl [920] ⟨rfl,trivial⟩ Z Z Z Z Z Z Z Z Z) (AD Z Z (AG (Ae ?_))))))));exact ⟨_,[920],_,Aa rfl,rfl,rfl,rfl,rfl⟩
theorem VA (its:List AT) (hits:its.length≤1000000) (hn:(its.map AT.sq).Nodup):AU Tryz.prog 182 [seqA its,.d (.raw (.func (.func 184) #[] #[]))] (.sl none ((sortO its).map BH)):=by
 refine B2 Tryz.func182 Z Z Tryz.ntmps182 Z Z Z fun F hF=>(AF (AJ (AD Z Z (AG (AF ?_)))));refine AJ (AC Z Z (U (Fp (Vv its hits) rfl [920] ⟨rfl,trivial⟩ Z Z Z Z Z Z Z Z Z) (AD Z Z (AG (AF (AJ (AC Z Z (AC Z Z ?_))))))));refine U (PO laysI (k:=6) (by decide) Tryz.isAgg49 Tryz.sizeOf49 Tryz.func184 Z Z YE It Dr.swo its (sortO its) (by omega) (fun x _ y _=>order_p x y) (fun ys g1 g2=>UG hn g1 g2) Z Z Z Ph Z Z Z Z Z) (AG (AF (WK (emb:=BH) 5 920 (sortO its) Z Z Z (K3 its).symm Z Z Z (AJ (AC Z Z (AD Z Z (AG (Ae ?_))))))));exact ⟨_,[],[],Aa rfl,rfl,rfl,rfl,rfl⟩
theorem LW {l:List AT} (h:Fj l=0):(l.map AT.sq).Nodup:=by
 have h0:=Uh.1 h;rw [List.Nodup,List.pairwise_map,List.pairwise_iff_getElem];intro i j hi hj hij e;have:=h0 j (List.mem_range.2 hj);unfold Nn at this;rw [Bd itm0 hj] at this
 split at this
 ·contradiction
 ·split at this
  ·cases this
  ·rename_i hn
   exact hn (.inr (Mn hj hij e))
theorem KW {p:Prb} (h:Ao p=0):D9 p.ro=0∧Fj p.it=0∧Py p.it=0:=by
 unfold Ao at h
 split at h; · cases h
 have h3:=KF h;exact ⟨h3 _ (by simp),h3 _ (by simp),h3 _ (by simp)⟩
def ordP (p:Prb):List AT:=if Ao p=0 then sortO p.it else []
theorem Kc (p:Prb) (hb:D1 p):AU Tryz.prog 140 [.d (Cc p)] (.sl none ((ordP p).map BH)):=by
 have hck:=HY p hb;obtain ⟨_,g2,_⟩:=hb
 by_cases hE:Ao p=0
 ·rw [hE] at hck;have hR:ordP p=sortO p.it:=if_pos hE;rw [hR];refine B2 Tryz.func140 Z Z Tryz.ntmps140 Z Z Z fun F hF=>(AF (AJ (U (C5 1 Z Z Z Z Z Z Z) (AD Z Z (AG (AF (AF (AJ ?_))))))))
  first | refine J (Av Z Z A4 rfl) ?_ | refine J (Aw Z Z A4 Z Z Z) ?_ | refine J (Ax Z Z (rfl) rfl A4 rfl) ?_
  refine J (B1 (hck) Z Z) ?_
  first | refine J (Fa Z Z Z) ?_ | refine J (F9 Z Z Z) ?_ | refine J (FM Z Z Z) ?_ | refine J (Fb Tryz.underlying34 Z Z Z) ?_ | refine J (Fd Tryz.underlying34 Z Z Z) ?_ | refine J (st_neqN Tryz.underlying34 Z Z) ?_ | refine J (Fc Tryz.underlying34 Z Z Z) ?_ | refine J (st_neqFN Tryz.underlying34 Z Z) ?_
  refine AG (Fs rfl ((by decide)) (Ak (AF (AJ ?_))))
  first | refine J (AM rfl CP Z Z Z) ?_ | refine J (AO rfl CP Z Z Z) ?_ | refine J (AP rfl CP Z Z Z) ?_ | refine J (AN rfl CP Z Z Z) ?_ | refine J (AL rfl CP Z Z Z) ?_
  first | refine J (AY Z Z Bh rfl) ?_ | refine J (AW Z Z Z Bh rfl) ?_ | refine J (AX Z Z (rfl) rfl Bh rfl) ?_
  refine U (Fp (WX p.it) rfl [] trivial Z Z Z Z Z Z Z Z Z) (J (B1 (VA p.it (by omega) (LW (KW hE).2.1)) Z Z) (AD Z Z (AG (Ae ?_))));exact ⟨_,[],[],Aa rfl,rfl,rfl,rfl,rfl⟩
 ·have hR:ordP p=[]:=if_neg hE;rw [hR];refine B2 Tryz.func140 Z Z Tryz.ntmps140 Z Z Z fun F hF=>?_;refine AF (AJ (U (C5 1 Z Z Z Z Z Z Z) (AD Z Z (Ug 2 rfl (AG (AF (AF (AJ ?_))))))))
  first | refine J (Av Z Z A4 rfl) ?_ | refine J (Aw Z Z A4 Z Z Z) ?_ | refine J (Ax Z Z (rfl) rfl A4 rfl) ?_
  refine J (B1 (hck) Z Z) ?_
  first | refine J (Fa Z Z Z) ?_ | refine J (F9 Z Z Z) ?_ | refine J (FM Z Z Z) ?_ | refine J (Fb Tryz.underlying34 Z Z Z) ?_ | refine J (Fd Tryz.underlying34 Z Z Z) ?_ | refine J (st_neqN Tryz.underlying34 Z Z) ?_ | refine J (Fc Tryz.underlying34 Z Z Z) ?_ | refine J (st_neqFN Tryz.underlying34 Z Z) ?_
  refine AG (EB rfl ((by simpa using hE)) (AF (AJ (AD Z Z (Ug 2 rfl (AG (Ae ?_)))))));exact ⟨_,[],[],Aa rfl,rfl,rfl,rfl,rfl⟩
end Go.Proofs.YtnkkaeblokdifaaGreat
