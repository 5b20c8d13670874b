/- Proved here: linkQueries_holds, the given statement Rows.LinkQueriesSaid: the law girolaw27.LinkQueries returns true and does not panic, at every input that the statement speaks of; no condition beyond the statement. -/
/- 'girolaw27.LinkQueries': for every input the law returns true, and each argument reads behind the call as it read before. No condition. -/
import Derived.Test.YtlmedakidpaeeaaGreatMg23
namespace Go.Proofs.YtlmedakidpaeeaaGreat
open Go.RowKit
theorem AQ.weak {P:Program} {f:FuncId} {args:List AV} {H H0:Hp} {x y:D} (h:AQ P f args H fun r H'=>r= .d x∧H'=H0) (hw:∀w O v,AM w O x v ->AM w O y v):AQ P f args H fun r H'=>r= .d y∧H'=H0:=
 ⟨h.1,fun F ρ vs h1 h2 h2' h3 h4 h5=>(h.2 F ρ vs h1 h2 h2' h3 h4 h5).mono fun e w' ⟨v,r,H',ρ',e1,⟨e2,e3⟩,hrep,hh⟩=>by
  subst e2 e3
  cases hrep with
  | d hrep=>exact ⟨v,_,_,ρ',e1,⟨rfl,rfl⟩,.d (hw _ _ _ hrep),hh⟩⟩
open Classical in
noncomputable def orNil (w:Ws) (x:St) (l:List St):List St:=if x∈w.R then l else []
theorem Im {w:Ws} {x:St} {l:List St}:∀W O v,AM W O (if x∈w.R then stsD l else .sl (some true) []) v ->AM W O (stsD (orNil w x l)) v:=fun W O v h=>by
 unfold orNil
 by_cases hx:x∈w.R
 ·rw [if_pos hx] at h⊢;exact h
 ·rw [if_neg hx] at h⊢;exact h.anyNil
theorem Nv {w:Ws} {x:St} {l:List St} (h:l.length≤1000000):(orNil w x l).length≤1000000:=by
 unfold orNil
 split
 ·exact h
 ·simp
theorem MZ (w:Ws) (hw:B1 w) (a:St) (hl:w.K.length≤2000000) (b:Bool):Ak Tryz.prog 15 [.d (Jw w),.d (AU a),.d (Ad b)] (stsD (orNil w a (cloW w a b))):=by
 unfold orNil
 by_cases ha:a∈w.R
 ·rw [if_pos ha]
  cases b with
  | false=>exact P6 w hw a hl ha
  | true=>exact P4 w hw a hl ha
 ·rw [if_neg ha];exact (P5 w hw a hl ha b).weak fun _ _ _ h=>h.anyNil
theorem LZ {l:List Lw} {k:Nat} (h:k<l.length):((l.map R2).map KG)[k]? =some (KG (R2 l[k])):=by
 rw [List.map_map,List.getElem?_map,List.getElem?_eq_getElem h];rfl
set_option maxRecDepth 100000 in
set_option maxHeartbeats 4000000 in
theorem law7_p (l0:List Js) (hl0:l0.length≤140737488355328) (other:St):Ak Tryz.prog 3 [.d (Qz l0),.d (AU other)] (.raw (.bool true)):=by
 obtain ⟨l,hle⟩:∃l,l0.take 24=l:=⟨_,rfl⟩
 have hl:l.length≤24:=by rw [←hle,List.length_take];omega
 have hfew:=few_p l0 hl0;rw [hle] at hfew;have hInv:=Mc l l.length (Nat.le_refl _);rw [List.take_length] at hInv;have hplay:=play_c l (by omega)
 obtain ⟨w,hw⟩:∃w,opsW l=w:=⟨_,rfl⟩
 rw [hw] at hInv hplay;have hok:=hInv.ok;have hnK:=hInv.nK;have hK:w.K.length≤1000000:=by omega
 have hR4:=hok.few;have hcl:∀x,(cls w x).length≤1000000:=fun x=>by have h1:(cls w x).length≤w.R.length:=List.length_filter_le _ _;omega
 have hco:∀x b,(cloW w x b).length≤1000000:=fun x b=>by have h1:(cloW w x b).length≤w.R.length:=List.length_filter_le _ _;omega
 refine CP Tryz.func3 Z Z Tryz.ntmps3 Z Z Z fun F hF=>(AE (AH (AD Z Z (AF (AE (AE (AH (J (Bz (known_p) Z Z) ?_))))))))
 first | refine J (ET Z Z) ?_ | refine J (EQ Z Z) ?_
 refine AF (DM rfl (rfl) (Ai (AE (AH (AC Z Z (J (Bz (hfew) Z Z) ?_))))));refine H1 (If hplay rfl [40] ⟨rfl,trivial⟩ Z Z Z Z (fun r H' ⟨b,M,e1,e2,_⟩=>by subst e1 e2;exact ⟨rfl,rfl,rfl⟩) rfl) rfl ?_;rintro _ ⟨r,H',⟨b,M,e1,e2,hL⟩,rfl⟩;subst e1 e2;refine AC Z Z ?_
 first | refine J (Bn Z Z Z) ?_ | refine J (Bm Z Z Z) ?_
 first | refine J (Bn Z Z Z) ?_ | refine J (Bm Z Z Z) ?_
 refine U (HZ 25 EW Z Z Z Z) (AD Z Z (U (Bu Z Z Z Z Z Z Z Bp) (AF (AE (AH (AC Z Z (U (Fq 30 Ba Z Z Z Z Z Z Z Z) ?_)))))))
 first | refine J (A2 rfl Ag Z Z Z) ?_ | refine J (A4 rfl Ag Z Z Z) ?_ | refine J (A5 rfl Ag Z Z Z) ?_ | refine J (A3 rfl Ag Z Z Z) ?_ | refine J (A1 rfl Ag Z Z Z) ?_
 first | refine J (AZ Z Z AW rfl) ?_ | refine J (AX Z Z Z AW rfl) ?_ | refine J (AY Z Z (rfl) rfl AW rfl) ?_
 first | refine U (IC ([other]) (w.R) Z Z Z Z Z Z Z Z Ba (by simp only [List.length_singleton];omega) Z Z Z Z) ?_ | refine U (Iu ([other]) (w.R) Z Z Z Z Z Z (fun _=>rfl) Ba (by simp only [List.length_singleton];omega) Z Z Z Z) ?_
 refine AD Z Z (AF (AE (AE ?_)))
 obtain ⟨all,hall⟩:∃all,[other]++w.R=all:=⟨_,rfl⟩
 have hal:all.length≤5000:=by rw [←hall,List.length_append,List.length_singleton];omega
 rw [hall];refine OY (emb:=AU) 7 30 all Z Z Z (by rw [←hall]) Z Z Z (AH (AD Z Z (AF (BH (Db (α:=Nat) (fun i=>⟨109,[(5,(.d (pD b 0))),(6,(.ptr 25 0 0)),(7,(.d (stsD all))),(8,(.d (natD i)))],[(25,[.blk 28 [.d (stsD w.R),.d (LY w.K)]]),(40,[.multi M])]⟩) (fun i=>i≤all.length) (fun i=>all.length - i) (0) (Nat.zero_le _) (At hF [25,40] Z Z ⟨rfl,rfl,rfl,rfl,trivial⟩) ?_)))));rintro i hi;refine AE (AE (AH (AC Z Z (AC Z Z (J (Bs rfl (List.length_map ..) Tryz.underlying25 rfl) ?_)))))
 first | refine J (D3 Z Z Z) ?_ | refine J (D4 Z Z Z) ?_
 refine AF ?_
 first | refine Az rfl (fun h29=>?_) (fun h29=>?_) | refine Aw rfl (fun h29=>?_) (fun h29=>?_)
 ·refine Ai (AE (BH (AE ?_)));have hil:i<all.length:=F1 h29
  obtain ⟨x,hx⟩:∃x,all[i]=x:=⟨_,rfl⟩
  have hge:=CL hil;rw [hx] at hge;have hrl:=LQ w x 2;have hrl:(rl w x).length≤2*4096:=Nat.le_trans hrl (Nat.mul_le_mul (Nat.le_refl _) hR4);refine AH (AC Z Z (AC Z Z ?_))
  first | refine J (BE (i) Z Z (rfl) (hge) Tryz.underlying25 rfl DW rfl) ?_ | refine J (BF (i) Z Z (rfl) (hge) rfl Tryz.underlying25 DW rfl) ?_
  first | refine J (AZ Z Z AR rfl) ?_ | refine J (AX Z Z Z AR rfl) ?_ | refine J (AY Z Z (rfl) rfl AR rfl) ?_
  refine AD Z Z (AF (AE (FK [[],[],[0,1],[],[],[0,1,2,3,4],[0,1,2,3,4,5],[0,1,2,3,4,5,6]] mixed rfl (D1 ?_))))
  first | refine AG [5] [] Z Z (fun _=>AB (A8 Z Z)) ?_ | refine AI [5] Z Z (fun _=>AB (A8 Z Z)) ?_
  first | refine AG [9] [] Z Z (fun _=>AB (A8 Z Z)) ?_ | refine AI [9] Z Z (fun _=>AB (A8 Z Z)) ?_
  refine Bo [36,37] [40] [(38,_)] Z Z (fun _=>I1 (Fn (links_c hL hok hK x) rfl [40] ⟨rfl,trivial⟩ Z Z Z Z Z Z Z Z Z)) (.inr ⟨38,_,rfl,rfl,rfl,rfl,rfl⟩) Z Z Z Z Z ?_
  first | refine AG [6] [25] Z Z (fun _=>AB (BN Z Z AL rfl)) ?_ | refine AG [6] [25] Z Z (fun _=>AB (BO Z Z AL Z Z Z)) ?_ | refine AG [6] [25] Z Z (fun _=>AB (BP Z Z (rfl) rfl AL rfl)) ?_
  first | refine AG [9] [] Z Z (fun _=>AB (A8 Z Z)) ?_ | refine AI [9] Z Z (fun _=>AB (A8 Z Z)) ?_
  refine D2 5 Z Z Z (BY 6 Z Z (J (Bz (Nq w hok hK x) Z Z) (AF ⟨rfl,?_⟩)));refine BY 7 Z Z (AD Z Z (AF ⟨rfl,?_⟩));refine BY 8 Z Z (AD Z Z (AF ⟨rfl,?_⟩));refine Eg (AE (AE ?_));have hgr:=(group_c hL hok hK x).weak Im;have hbf:=(NX hL hok hK x).weak Im;have hbh:=(SN hL hok hK x).weak Im;have hrm:=(Cm w hok x (by omega)).weak Im;refine FK [[],[],[0,1],[],[3],[],[0,1,2,3,4,5],[0,1,2,3,4,5,6],[0,1,2,3,4,5,6,7],[0,1,2,3,4,5,6,7,8],[0,1,2,3,4,5,6,7,8,9],[0,1,2,3,4,5,6,7,8],[0,1,2,3,4,5,6,7,8,11],[0,1,2,3,4,5,6,7,8,9,10,11,12],[0,1,2,3,4,5,6,7,8,9,10,11,12,13],[0,1,2,3,4,5,6,7,8,9,10,11,12,13,14],[0,1,2,3,4,5,6,7,8,9,10,11,12,13,14,15],[0,1,2,3,4,5,6,7,8,9,10,11,12,13,14,15],[0,1,2,3,4,5,6,7,8,9,10,11,12,13,14,15,16,17],[0,1,2,3,4,5,6,7,8,9,10,11,12,13,14,15],[0,1,2,3,4,5,6,7,8,9,10,11,12,13,14,15],[0,1,2,3,4,5,6,7,8,9,10,11,12,13,14,15,16,17,18,19,20],[0,1,2,3,4,5,6,7,8,9,10,11,12,13,14,15,16,17,18,19,20,21],[0,1,2,3,4,5,6,7,8,9,10,11,12,13,14,15,16,17,18,19,20,21,22],[0,1,2,3,4,5,6,7,8,9,10,11,12,13,14,15,16,17,18,19,20,21,22,23],[0,1,2,3,4,5,6,7,8,9,10,11,12,13,14,15,16,17,18,19,20,21,22,23,24],[0,1,2,3,4,5,6,7,8,9,10,11,12,13,14,15,16,17,18,19,20,21,22,23,24,25],[0,1,2,3,4,5,6,7,8,9,10,11,12,13,14,15,16,17,18,19,20,21,22,23,24,25],[0,1,2,3,4,5,6,7,8,9,10,11,12,13,14,15,16,17,18,19,20,21,22,23,24,25,26,27],[0,1,2,3,4,5,6,7,8,9,10,11,12,13,14,15,16,17,18,19,20,21,22,23,24,25],[0,1,2,3,4,5,6,7,8,9,10,11,12,13,14,15,16,17,18,19,20,21,22,23,24,25],[0,1,2,3,4,5,6,7,8,9,10,11,12,13,14,15,16,17,18,19,20,21,22,23,24,25,26,27,28,29,30],[0,1,2,3,4,5,6,7,8,9,10,11,12,13,14,15,16,17,18,19,20,21,22,23,24,25,26,27,28,29,30,31],[0,1,2,3,4,5,6,7,8,9,10,11,12,13,14,15,16,17,18,19,20,21,22,23,24,25,26,27,28,29,30,31,32],[0,1,2,3,4,5,6,7,8,9,10,11,12,13,14,15,16,17,18,19,20,21,22,23,24,25,26,27,28,29,30,31,32,33],[0,1,2,3,4,5,6,7,8,9,10,11,12,13,14,15,16,17,18,19,20,21,22,23,24,25,26,27,28,29,30,31,32,33,34],[0,1,2,3,4,5,6,7,8,9,10,11,12,13,14,15,16,17,18,19,20,21,22,23,24,25,26,27,28,29,30,31,32,33,34,35],[0,1,2,3,4,5,6,7,8,9,10,11,12,13,14,15,16,17,18,19,20,21,22,23,24,25,26,27,28,29,30,31,32,33,34,35],[0,1,2,3,4,5,6,7,8,9,10,11,12,13,14,15,16,17,18,19,20,21,22,23,24,25,26,27,28,29,30,31,32,33,34,35,36,37],[0,1,2,3,4,5,6,7,8,9,10,11,12,13,14,15,16,17,18,19,20,21,22,23,24,25,26,27,28,29,30,31,32,33,34,35],[0,1,2,3,4,5,6,7,8,9,10,11,12,13,14,15,16,17,18,19,20,21,22,23,24,25,26,27,28,29,30,31,32,33,34,35],[0,1,2,3,4,5,6,7,8,9,10,11,12,13,14,15,16,17,18,19,20,21,22,23,24,25,26,27,28,29,30,31,32,33,34,35,36,37,38,39,40],[0,1,2,3,4,5,6,7,8,9,10,11,12,13,14,15,16,17,18,19,20,21,22,23,24,25,26,27,28,29,30,31,32,33,34,35,36,37,38,39,40,41],[0,1,2,3,4,5,6,7,8,9,10,11,12,13,14,15,16,17,18,19,20,21,22,23,24,25,26,27,28,29,30,31,32,33,34,35,36,37,38,39,40,41,42],[0,1,2,3,4,5,6,7,8,9,10,11,12,13,14,15,16,17,18,19,20,21,22,23,24,25,26,27,28,29,30,31,32,33,34,35,36,37,38,39,40,41,42,43]] mixed rfl (D1 ?_)
  first | refine AG [5] [] Z Z (fun _=>AB (A8 Z Z)) ?_ | refine AI [5] Z Z (fun _=>AB (A8 Z Z)) ?_
  first | refine AG [9] [] Z Z (fun _=>AB (A8 Z Z)) ?_ | refine AI [9] Z Z (fun _=>AB (A8 Z Z)) ?_
  refine Bo [42,43] [40] [(44,_)] Z Z (fun _=>I1 (Fn (GX hL x) rfl [40] ⟨rfl,trivial⟩ Z Z Z Z Z Z Z Z Z)) (.inr ⟨44,_,rfl,rfl,rfl,rfl,rfl⟩) Z Z Z Z Z ?_
  first | refine AG [6] [] Z Z (fun _=>AB (A2 rfl Ag Z Z Z)) ?_ | refine AI [6] Z Z (fun _=>AB (A2 rfl Ag Z Z Z)) ?_ | refine AG [6] [] Z Z (fun _=>AB (A4 rfl Ag Z Z Z)) ?_ | refine AI [6] Z Z (fun _=>AB (A4 rfl Ag Z Z Z)) ?_ | refine AG [6] [] Z Z (fun _=>AB (A5 rfl Ag Z Z Z)) ?_ | refine AI [6] Z Z (fun _=>AB (A5 rfl Ag Z Z Z)) ?_ | refine AG [6] [] Z Z (fun _=>AB (A3 rfl Ag Z Z Z)) ?_ | refine AI [6] Z Z (fun _=>AB (A3 rfl Ag Z Z Z)) ?_ | refine AG [6] [] Z Z (fun _=>AB (A1 rfl Ag Z Z Z)) ?_ | refine AI [6] Z Z (fun _=>AB (A1 rfl Ag Z Z Z)) ?_
  first | refine AG [45] [25] Z Z (fun _=>AB (AZ Z Z AW rfl)) ?_ | refine AG [45] [25] Z Z (fun _=>AB (AX Z Z Z AW rfl)) ?_ | refine AG [45] [25] Z Z (fun _=>AB (AY Z Z (rfl) rfl AW rfl)) ?_
  first | refine AG [9] [] Z Z (fun _=>AB (A8 Z Z)) ?_ | refine AI [9] Z Z (fun _=>AB (A8 Z Z)) ?_
  refine D2 6 Z Z Z (BY 7 Z Z (J (Bz (Jx w.R x (by omega)) Z Z) (AF ⟨rfl,?_⟩)));refine BY 8 Z Z ?_
  first | refine J (I8 Z Z Z) ?_ | refine J (I7 Z Z Z) ?_ | refine J (IF Z Z Z) ?_ | refine J (I2 Tryz.underlying4 Z Z Z) ?_ | refine J (I4 Tryz.underlying4 Z Z Z) ?_ | refine J (st_neqN Tryz.underlying4 Z Z) ?_ | refine J (st_neqPr Tryz.underlying4 Z Z) ?_ | refine J (st_neqMz Tryz.underlying4 Z Z) ?_ | refine J (I3 Tryz.underlying4 Z Z Z) ?_ | refine J (st_neqFN Tryz.underlying4 Z Z) ?_
  refine AF ⟨rfl,?_⟩;refine BY 9 Z Z (AC Z Z (Eo 50 rfl (by simp) (AF ⟨rfl,?_⟩)));refine D1 ?_
  first | refine AG [10,50] [] Z Z (fun _=>CA Z Z Z (A8 Z Z)) ?_ | refine AI [10,50] Z Z (fun _=>CA Z Z Z (A8 Z Z)) ?_
  first | refine AG [51,50] [] Z Z (fun _=>CA Z Z Z (Bs rfl (List.length_map ..) Tryz.underlying32 rfl)) ?_ | refine AI [51,50] Z Z (fun _=>CA Z Z Z (Bs rfl (List.length_map ..) Tryz.underlying32 rfl)) ?_
  first | refine AG [11,50] [] Z Z (fun _=>CA Z Z Z (A8 Z Z)) ?_ | refine AI [11,50] Z Z (fun _=>CA Z Z Z (A8 Z Z)) ?_
  first | refine AG [53,50] [] Z Z (fun _=>CA Z Z Z (Bs rfl (List.length_map ..) Tryz.underlying26 rfl)) ?_ | refine AI [53,50] Z Z (fun _=>CA Z Z Z (Bs rfl (List.length_map ..) Tryz.underlying26 rfl)) ?_
  refine D2 13 Z Z Z (BY 14 Z Z (Aa Z Z Z ?_))
  first | refine J (I8 Z Z Z) ?_ | refine J (I7 Z Z Z) ?_ | refine J (IF Z Z Z) ?_ | refine J (I2 Tryz.underlying3 Z Z Z) ?_ | refine J (I4 Tryz.underlying3 Z Z Z) ?_ | refine J (st_neqN Tryz.underlying3 Z Z) ?_ | refine J (st_neqPr Tryz.underlying3 Z Z) ?_ | refine J (st_neqMz Tryz.underlying3 Z Z) ?_ | refine J (I3 Tryz.underlying3 Z Z Z) ?_ | refine J (st_neqFN Tryz.underlying3 Z Z) ?_
  refine AF ⟨rfl,?_⟩;refine BY 15 Z Z (J (Fo Z Z Z Z) (AF ⟨rfl,?_⟩));refine BY 16 Z Z (AC Z Z (Eo 57 rfl (by simp) (AF ⟨rfl,?_⟩)));refine D1 ?_
  first | refine AG [5,57] [] Z Z (fun _=>CA Z Z Z (A8 Z Z)) ?_ | refine AI [5,57] Z Z (fun _=>CA Z Z Z (A8 Z Z)) ?_
  first | refine AG [9,57] [] Z Z (fun _=>CA Z Z Z (A8 Z Z)) ?_ | refine AI [9,57] Z Z (fun _=>CA Z Z Z (A8 Z Z)) ?_
  refine Bo [58,59,57] [40] [(60,_)] Z Z (fun _=>OH Z Z Z (Fn hgr rfl [40] ⟨rfl,trivial⟩ Z Z Z Z Z Z Z Z Z)) (.inr ⟨60,_,rfl,rfl,rfl,rfl,rfl⟩) Z Z Z Z Z ?_
  first | refine AG [6,57] [25] Z Z (fun _=>CA Z Z Z (BN Z Z AL rfl)) ?_ | refine AG [6,57] [25] Z Z (fun _=>CA Z Z Z (BO Z Z AL Z Z Z)) ?_ | refine AG [6,57] [25] Z Z (fun _=>CA Z Z Z (BP Z Z (rfl) rfl AL rfl)) ?_
  first | refine AG [9,57] [] Z Z (fun _=>CA Z Z Z (A8 Z Z)) ?_ | refine AI [9,57] Z Z (fun _=>CA Z Z Z (A8 Z Z)) ?_
  refine D2 21 Z Z Z (BY 22 Z Z (Aa Z Z Z (J (Bz (hrm) Z Z) (AF ⟨rfl,?_⟩))));refine BY 23 Z Z (Aa Z Z Z (J (Bz (GE (orNil w x (cls w x)) (orNil w x (cls w x)) (Nv (hcl x))) Z Z) (AF ⟨rfl,?_⟩)));refine BY 24 Z Z (Aa Z Z Z ?_)
  first | refine J (ET Z Z) ?_ | refine J (EQ Z Z) ?_
  refine AF ⟨rfl,?_⟩;refine BY 25 Z Z (J (Fo Z Z Z Z) (AF ⟨rfl,?_⟩));refine BY 26 Z Z (AC Z Z (Eo 67 rfl (by simp) (AF ⟨rfl,?_⟩)));refine D1 ?_
  first | refine AG [5,67] [] Z Z (fun _=>CA Z Z Z (A8 Z Z)) ?_ | refine AI [5,67] Z Z (fun _=>CA Z Z Z (A8 Z Z)) ?_
  first | refine AG [9,67] [] Z Z (fun _=>CA Z Z Z (A8 Z Z)) ?_ | refine AI [9,67] Z Z (fun _=>CA Z Z Z (A8 Z Z)) ?_
  refine Bo [68,69,67] [40] [(70,_)] Z Z (fun _=>OH Z Z Z (Fn hbf rfl [40] ⟨rfl,trivial⟩ Z Z Z Z Z Z Z Z Z)) (.inr ⟨70,_,rfl,rfl,rfl,rfl,rfl⟩) Z Z Z Z Z ?_
  first | refine AG [6,67] [25] Z Z (fun _=>CA Z Z Z (BN Z Z AL rfl)) ?_ | refine AG [6,67] [25] Z Z (fun _=>CA Z Z Z (BO Z Z AL Z Z Z)) ?_ | refine AG [6,67] [25] Z Z (fun _=>CA Z Z Z (BP Z Z (rfl) rfl AL rfl)) ?_
  first | refine AG [9,67] [] Z Z (fun _=>CA Z Z Z (A8 Z Z)) ?_ | refine AI [9,67] Z Z (fun _=>CA Z Z Z (A8 Z Z)) ?_
  refine D2 31 Z Z Z (BY 32 Z Z (Aa Z Z Z (J (Bz (MZ w hok x (by omega) false) Z Z) (AF ⟨rfl,?_⟩))));refine BY 33 Z Z (Aa Z Z Z (J (Bz (GE (orNil w x (cloW w x false)) (orNil w x (cloW w x false)) (Nv (hco x false))) Z Z) (AF ⟨rfl,?_⟩)));refine BY 34 Z Z (Aa Z Z Z ?_)
  first | refine J (ET Z Z) ?_ | refine J (EQ Z Z) ?_
  refine AF ⟨rfl,?_⟩;refine BY 35 Z Z (J (Fo Z Z Z Z) (AF ⟨rfl,?_⟩));refine BY 36 Z Z (AC Z Z (Eo 77 rfl (by simp) (AF ⟨rfl,?_⟩)));refine D1 ?_
  first | refine AG [5,77] [] Z Z (fun _=>CA Z Z Z (A8 Z Z)) ?_ | refine AI [5,77] Z Z (fun _=>CA Z Z Z (A8 Z Z)) ?_
  first | refine AG [9,77] [] Z Z (fun _=>CA Z Z Z (A8 Z Z)) ?_ | refine AI [9,77] Z Z (fun _=>CA Z Z Z (A8 Z Z)) ?_
  refine Bo [78,79,77] [40] [(80,_)] Z Z (fun _=>OH Z Z Z (Fn hbh rfl [40] ⟨rfl,trivial⟩ Z Z Z Z Z Z Z Z Z)) (.inr ⟨80,_,rfl,rfl,rfl,rfl,rfl⟩) Z Z Z Z Z ?_
  first | refine AG [6,77] [25] Z Z (fun _=>CA Z Z Z (BN Z Z AL rfl)) ?_ | refine AG [6,77] [25] Z Z (fun _=>CA Z Z Z (BO Z Z AL Z Z Z)) ?_ | refine AG [6,77] [25] Z Z (fun _=>CA Z Z Z (BP Z Z (rfl) rfl AL rfl)) ?_
  first | refine AG [9,77] [] Z Z (fun _=>CA Z Z Z (A8 Z Z)) ?_ | refine AI [9,77] Z Z (fun _=>CA Z Z Z (A8 Z Z)) ?_
  refine D2 41 Z Z Z (BY 42 Z Z (Aa Z Z Z (J (Bz (MZ w hok x (by omega) true) Z Z) (AF ⟨rfl,?_⟩))));refine BY 43 Z Z (Aa Z Z Z (J (Bz (GE (orNil w x (cloW w x true)) (orNil w x (cloW w x true)) (Nv (hco x true))) Z Z) (AF ⟨rfl,?_⟩)));refine BY 44 Z Z (Aa Z Z Z ?_)
  first | refine J (ET Z Z) ?_ | refine J (EQ Z Z) ?_
  refine AF ⟨rfl,?_⟩;refine BY 45 Z Z (J (Fo Z Z Z Z) (AF ⟨rfl,?_⟩));refine Eg (DM rfl (by simp) (Ai (AE (AH (AD Z Z (AF (BH (Db (α:=Nat) (fun k=>⟨109,[(5,(.d (pD b 0))),(6,(.ptr 25 0 0)),(7,(.d (stsD all))),(8,(.d (natD i))),(10,(.d (.sl none (((rl w x).map R2).map KG)))),(11,(.d (LY (rl w x)))),(12,(.d (natD k)))],[(25,[.blk 28 [.d (stsD w.R),.d (LY w.K)]]),(40,[.multi M])]⟩) (fun k=>k≤(rl w x).length) (fun k=>(rl w x).length - k) (0) (Nat.zero_le _) (At hF [25,40] Z Z ⟨rfl,rfl,rfl,rfl,rfl,rfl,rfl,trivial⟩) ?_))))))));rintro k hk;refine AE (AE (AH (AC Z Z (AC Z Z (J (Bs rfl (List.length_map ..) Tryz.underlying32 rfl) ?_)))))
  first | refine J (D3 Z Z Z) ?_ | refine J (D4 Z Z Z) ?_
  refine AF ?_
  first | refine Az rfl (fun h90=>?_) (fun h90=>?_) | refine Aw rfl (fun h90=>?_) (fun h90=>?_)
  ·refine Ai (AE (BH (AE ?_)));have hkl:k<(rl w x).length:=by have:=F1 h90;rwa [List.length_map] at this
   refine FK [[],[],[0,1],[0,1,2],[],[],[4,5],[4,5,6],[4,5,6,7],[],[],[9,10],[9,10,11],[9,10,11,12],[4,5,6,7,8,9,10,11,12,13],[0,1,2,3,4,5,6,7,8,9,10,11,12,13,14]] mixed rfl (D1 ?_)
   first | refine AG [10] [] Z Z (fun _=>AB (A8 Z Z)) ?_ | refine AI [10] Z Z (fun _=>AB (A8 Z Z)) ?_
   first | refine AG [12] [] Z Z (fun _=>AB (A8 Z Z)) ?_ | refine AI [12] Z Z (fun _=>AB (A8 Z Z)) ?_
   first | refine AG [93,94] [] Z Z (fun _=>AB (BE (k) Z Z (rfl) (LZ hkl) Tryz.underlying32 rfl ME rfl)) ?_ | refine AI [93,94] Z Z (fun _=>AB (BE (k) Z Z (rfl) (LZ hkl) Tryz.underlying32 rfl ME rfl)) ?_ | refine AG [93,94] [] Z Z (fun _=>AB (BF (k) Z Z (rfl) (LZ hkl) rfl Tryz.underlying32 ME rfl)) ?_ | refine AI [93,94] Z Z (fun _=>AB (BF (k) Z Z (rfl) (LZ hkl) rfl Tryz.underlying32 ME rfl)) ?_
   first | refine AG [95] [] Z Z (fun _=>AB (BN Z Z Am rfl)) ?_ | refine AI [95] Z Z (fun _=>AB (BN Z Z Am rfl)) ?_ | refine AG [95] [] Z Z (fun _=>AB (BO Z Z Am Z Z Z)) ?_ | refine AI [95] Z Z (fun _=>AB (BO Z Z Am Z Z Z)) ?_ | refine AG [95] [] Z Z (fun _=>AB (BP Z Z (rfl) rfl Am rfl)) ?_ | refine AI [95] Z Z (fun _=>AB (BP Z Z (rfl) rfl Am rfl)) ?_
   first | refine AG [11] [] Z Z (fun _=>AB (A8 Z Z)) ?_ | refine AI [11] Z Z (fun _=>AB (A8 Z Z)) ?_
   first | refine AG [12] [] Z Z (fun _=>AB (A8 Z Z)) ?_ | refine AI [12] Z Z (fun _=>AB (A8 Z Z)) ?_
   first | refine AG [97,98] [] Z Z (fun _=>AB (BE (k) Z Z (rfl) (BJ hkl) Tryz.underlying26 rfl BB rfl)) ?_ | refine AI [97,98] Z Z (fun _=>AB (BE (k) Z Z (rfl) (BJ hkl) Tryz.underlying26 rfl BB rfl)) ?_ | refine AG [97,98] [] Z Z (fun _=>AB (BF (k) Z Z (rfl) (BJ hkl) rfl Tryz.underlying26 BB rfl)) ?_ | refine AI [97,98] Z Z (fun _=>AB (BF (k) Z Z (rfl) (BJ hkl) rfl Tryz.underlying26 BB rfl)) ?_
   first | refine AG [99] [] Z Z (fun _=>AB (A2 rfl Eh Z Z Z)) ?_ | refine AI [99] Z Z (fun _=>AB (A2 rfl Eh Z Z Z)) ?_ | refine AG [99] [] Z Z (fun _=>AB (A4 rfl Eh Z Z Z)) ?_ | refine AI [99] Z Z (fun _=>AB (A4 rfl Eh Z Z Z)) ?_ | refine AG [99] [] Z Z (fun _=>AB (A5 rfl Eh Z Z Z)) ?_ | refine AI [99] Z Z (fun _=>AB (A5 rfl Eh Z Z Z)) ?_ | refine AG [99] [] Z Z (fun _=>AB (A3 rfl Eh Z Z Z)) ?_ | refine AI [99] Z Z (fun _=>AB (A3 rfl Eh Z Z Z)) ?_ | refine AG [99] [] Z Z (fun _=>AB (A1 rfl Eh Z Z Z)) ?_ | refine AI [99] Z Z (fun _=>AB (A1 rfl Eh Z Z Z)) ?_
   first | refine AG [100] [] Z Z (fun _=>AB (AZ Z Z BV rfl)) ?_ | refine AI [100] Z Z (fun _=>AB (AZ Z Z BV rfl)) ?_ | refine AG [100] [] Z Z (fun _=>AB (AX Z Z Z BV rfl)) ?_ | refine AI [100] Z Z (fun _=>AB (AX Z Z Z BV rfl)) ?_ | refine AG [100] [] Z Z (fun _=>AB (AY Z Z (rfl) rfl BV rfl)) ?_ | refine AI [100] Z Z (fun _=>AB (AY Z Z (rfl) rfl BV rfl)) ?_
   first | refine AG [11] [] Z Z (fun _=>AB (A8 Z Z)) ?_ | refine AI [11] Z Z (fun _=>AB (A8 Z Z)) ?_
   first | refine AG [12] [] Z Z (fun _=>AB (A8 Z Z)) ?_ | refine AI [12] Z Z (fun _=>AB (A8 Z Z)) ?_
   first | refine AG [102,103] [] Z Z (fun _=>AB (BE (k) Z Z (rfl) (BJ hkl) Tryz.underlying26 rfl BB rfl)) ?_ | refine AI [102,103] Z Z (fun _=>AB (BE (k) Z Z (rfl) (BJ hkl) Tryz.underlying26 rfl BB rfl)) ?_ | refine AG [102,103] [] Z Z (fun _=>AB (BF (k) Z Z (rfl) (BJ hkl) rfl Tryz.underlying26 BB rfl)) ?_ | refine AI [102,103] Z Z (fun _=>AB (BF (k) Z Z (rfl) (BJ hkl) rfl Tryz.underlying26 BB rfl)) ?_
   first | refine AG [104] [] Z Z (fun _=>AB (A2 rfl Bf Z Z Z)) ?_ | refine AI [104] Z Z (fun _=>AB (A2 rfl Bf Z Z Z)) ?_ | refine AG [104] [] Z Z (fun _=>AB (A4 rfl Bf Z Z Z)) ?_ | refine AI [104] Z Z (fun _=>AB (A4 rfl Bf Z Z Z)) ?_ | refine AG [104] [] Z Z (fun _=>AB (A5 rfl Bf Z Z Z)) ?_ | refine AI [104] Z Z (fun _=>AB (A5 rfl Bf Z Z Z)) ?_ | refine AG [104] [] Z Z (fun _=>AB (A3 rfl Bf Z Z Z)) ?_ | refine AI [104] Z Z (fun _=>AB (A3 rfl Bf Z Z Z)) ?_ | refine AG [104] [] Z Z (fun _=>AB (A1 rfl Bf Z Z Z)) ?_ | refine AI [104] Z Z (fun _=>AB (A1 rfl Bf Z Z Z)) ?_
   first | refine AG [105] [] Z Z (fun _=>AB (AZ Z Z AR rfl)) ?_ | refine AI [105] Z Z (fun _=>AB (AZ Z Z AR rfl)) ?_ | refine AG [105] [] Z Z (fun _=>AB (AX Z Z Z AR rfl)) ?_ | refine AI [105] Z Z (fun _=>AB (AX Z Z Z AR rfl)) ?_ | refine AG [105] [] Z Z (fun _=>AB (AY Z Z (rfl) rfl AR rfl)) ?_ | refine AI [105] Z Z (fun _=>AB (AY Z Z (rfl) rfl AR rfl)) ?_
   first | refine AG [101,106] [] Z Z (fun _=>AB (LE Iw Ns Z Z Z)) ?_ | refine AI [101,106] Z Z (fun _=>AB (LE Iw Ns Z Z Z)) ?_
   refine D2 15 Z Z Z (BY 16 Z Z (J (MJ (la:=lkC (R2 (rl w x)[k])) (lb:=lkC (R2 (rl w x)[k])) (ds:=lkT) (t:=false) (by kernel_rfl) (by kernel_rfl) (by kernel_rfl) Z Z Z Z (J2 _) (J2 _) (by rw [R8];simp) rfl) (AF ⟨rfl,?_⟩)));refine Eg (DM rfl (rfl) (Ai (AH (AC Z Z (J (CG Z Z (IntWalk.i64_in _ (by omega)) rfl) (AD Z Z (AF ?_)))))));exact ⟨k+1,hkl,by omega,At hF [25,40] rfl (rfl) ⟨rfl,rfl,rfl,rfl,rfl,rfl,rfl,trivial⟩⟩
  ·refine C5 (AH (AC Z Z (J (CG Z Z (IntWalk.i64_in _ (by omega)) rfl) (AD Z Z (AF ?_)))));exact ⟨i+1,hil,by omega,At hF [25,40] rfl (rfl) ⟨rfl,rfl,rfl,rfl,trivial⟩⟩
 ·refine C5 (AE (AH (AD Z Z (AF (Aq ?_)))));exact ⟨_,[],[],An rfl,rfl,rfl,rfl,rfl⟩
end Go.Proofs.YtlmedakidpaeeaaGreat
namespace Go.Proofs.YtlmedakidpaeeaaGreat
open Go.ChangeShapes Go.WideShapes Go.ChangeAt Go.RowKit
set_option maxRecDepth 100000 in
theorem linkQueries_lifted (os:Os) (started:os.Started) (H:Type) (enc:TypeId×Value ->H):
  ReturnsInHanded {} Tryz.checked os 3 .any (Rows.linkQueriesSpec.pre6 enc Tryz.prog Tryz.f3 Rows.linkQueriesRow.domain false) (Rows.linkQueriesSpec.post enc Tryz.prog Tryz.f3 false true false false):=by
 refine returnsInHanded_of_change_sized (C:=Tryz.checked) Tryz.own started (by kernel_rfl) Tryz.func3
  (ChangeSpec.witness6 (enc:=enc) (C:=Tryz.checked) false ⟨#[], #[.slice none 0 0,.string ⟨#[]⟩],[]⟩ 8 (by kernel_rfl) (by kernel_rfl) (by kernel_rfl) (by kernel_rfl)) ?_
 intro W base args ds gs before hval0 hW _ hwt _;have hW':=hW;obtain ⟨p,q,hA0,hV,rfl,_,_⟩:=hW;have hlt:∀x∈p++q,x.block<W.heap.size:=fun x hx=>hW'.lt x hx;have hA:DataW.TrodAll enc Tryz.prog W 0 (fun _=>true) true Tryz.f3.params.toList args.toList ds p:=hA0;rw [Tryz.params3] at hA;obtain ⟨v0,v1,d0,d1,p0,p1,rfl,rfl,rfl,h0,h1⟩:=trodAll_two hA;obtain ⟨rfl,rfl⟩:=trodVars_none hV;have hwz:∀n∈DataW.weightsEach Tryz.prog ([22,9]:List TypeId) ([d0,d1]),n≤reachBytes:=fun n hn=>of_decide_eq_true (List.all_eq_true.1 hwt n (by rw [Tryz.params3];exact hn));have hval:∀(j:Nat) t v,Tryz.f3.params[j]? =some t ->(#[v0,v1]:Array Value)[j]? =some v ->Value.okWide Tryz.prog W .any base t v:=hval0;rw [Tryz.params3] at hval;obtain ⟨n0,g0⟩:=h0;have hv0:v0.oneCell'=true:=by obtain ⟨_,_,_,e⟩:=okWide_slice Tryz.underlying22 (hval 0 22 v0 Z Z);rw [e];rfl
 obtain ⟨a0,q0,_,r0⟩:=(openSl Tryz.underlying22 (by kernel_rfl) (by omega) (b:=48) (by kernel_rfl) (oOp)) _ _ _ g0 (fun x hx=>hlt x (by simp [hx])) (fun n hn=>hwz n (DataW.weights_mem_each (j:=0) (t:=22) rfl rfl n hn));obtain ⟨n1,g1⟩:=h1;have hv1:v1.oneCell'=true:=by obtain ⟨_,e⟩:=okWide_string Tryz.underlying9 (hval 1 9 v1 Z Z);rw [e];rfl
 obtain ⟨a1,q1,_,r1⟩:=(JV Tryz.underlying9) _ _ _ g1 (fun x hx=>hlt x (by simp [hx])) (fun n hn=>hwz n (DataW.weights_mem_each (j:=1) (t:=9) rfl rfl n hn));refine (Pr (law7_p a0 (by have:=q0;unfold reachBytes at this;omega) a1) (vs:=[v0,v1]) rfl (fun i a v ha hv=>?_)).mono fun e W' ⟨he,hb⟩=>?_
 ·rcases i with _ | _ | i
  ·simp at ha hv;subst ha hv;exact KO.arg1 Z Z hv0 r0
  ·simp at ha hv;subst ha hv;exact KO.arg1 Z Z hv1 r1
  ·simp at ha
 subst he;exact ⟨_,rfl,Re (tb:=4) Tryz.laidOut (by kernel_rfl) Z Z Tryz.underlying4 hW' ⟨rfl,rfl,rfl⟩ hb⟩
theorem linkQueries_holds:Rows.LinkQueriesSaid:=
 OpenClaim.holds_of_wide 3 Tryz.f3 Z Z Z Z Z Z Z ⟨rfl,rfl,rfl,rfl,rfl⟩ Z Z Z Z Z (by kernel_rfl) Tryz.func3 (by kernel_rfl)
  (of_decide_eq_true (by kernel_rfl)) (by unfold Func.isWrapper;first | (rw [if_pos (by decide+kernel)];kernel_rfl) | (rw [if_neg (by decide+kernel)];exact ⟨rfl,rfl⟩))
  (fun os started H enc _=>linkQueries_lifted os started H enc)
#print axioms linkQueries_holds
end Go.Proofs.YtlmedakidpaeeaaGreat
