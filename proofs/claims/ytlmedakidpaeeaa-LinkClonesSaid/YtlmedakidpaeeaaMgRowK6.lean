/- Proved here: linkClones_holds, the given statement Rows.LinkClonesSaid: the law girolaw27.LinkClones returns true and does not panic, at every input that the statement speaks of; no condition beyond the statement. -/
/- 'girolaw27.LinkClones': for every input the law returns true, and each argument reads behind the call as it read before. No condition. -/
import Derived.Test.YtlmedakidpaeeaaMg23
namespace Go.Proofs.Ytlmedakidpaeeaa
open Go.RowKit
noncomputable def opsF (w:Ws) (l:List Hs):Ws:=l.foldl (fun w o=>(opW w o).1) w
theorem HS {w:Ws} {l:List Hs} {k:Nat} (hk:k<l.length):opsF w (l.take (k+1))=(opW (opsF w (l.take k)) l[k]).1:=by
 unfold opsF;rw [List.take_succ_eq_append_getElem hk,List.foldl_append];rfl
theorem Ls {w:Ws} {n:Nat} (h:C8 w n) (l:List Hs):∀k,k≤l.length ->C8 (opsF w (l.take k)) (n+k):=by
 intro k
 induction k with
 | zero=>intro _;exact h
 | succ k ih=>intro hk;rw [HS (by omega)];exact (ih (by omega)).op _
theorem Qp {M N:MF} {b b2:Nat} {w w2:Ws} (h:BR M b w) (h2:BR N b2 w2) (hw:BV w) (hw2:BV w2):AR Try.prog 28 [.d (pD b 0),.d (pD b2 0)] [(42,[.multi M]),(40,[.multi N])] fun r H'=>r= .d (Ak (decide (Dg w w2)))∧H'=[(42,[.multi M]),(40,[.multi N])]:=
 (Qo h h2 hw hw2).by [(41,42)] rfl
set_option maxRecDepth 100000 in
set_option maxHeartbeats 4000000 in
theorem law6_p (l0 m0:List Hs) (hl0:l0.length≤140737488355328) (hm0:m0.length≤140737488355328):B3 Try.prog 8 [.d (NJ l0),.d (NJ m0)] (.raw (.bool true)):=by
 obtain ⟨l,hle⟩:∃l,l0.take 24=l:=⟨_,rfl⟩
 have hl:l.length≤24:=by rw [←hle,List.length_take];omega
 have hfew:=few_p l0 hl0;rw [hle] at hfew
 obtain ⟨m,hme⟩:∃l,m0.take 24=l:=⟨_,rfl⟩
 have hm:m.length≤24:=by rw [←hme,List.length_take];omega
 have hfew2:=few_p m0 hm0;rw [hme] at hfew2;have hInv:=In l l.length (Nat.le_refl _);rw [List.take_length] at hInv;have hplay:=Pt l (by omega)
 obtain ⟨w,hw⟩:∃w,opsW l=w:=⟨_,rfl⟩
 rw [hw] at hInv hplay;have hok:=hInv.ok;have hac:=hInv.acy;have hnK:=hInv.nK;have hK:w.K.length≤1000000:=by omega
 have hInv2:=In m m.length (Nat.le_refl _);rw [List.take_length] at hInv2;have hplay2:=(Pt m (by omega)).byX [(40,41)] rfl
 obtain ⟨v,hv⟩:∃v,opsW m=v:=⟨_,rfl⟩
 rw [hv] at hInv2 hplay2;have hok2:=hInv2.ok;have hnK2:=hInv2.nK;have hseen:=fun {M:MF} {b:Nat} (h:BR M b w)=>P6 h hok hac hK (Gw hok).1 (Gw hok).2;refine DA Try.func8 Z Z Try.ntmps8 Z Z Z fun F hF=>(AG (AI (AE Z Z (AF (AG (AG (AI (J (DE (known_p) Z Z) ?_))))))))
 first | refine J (EG Z Z) ?_ | refine J (EE Z Z) ?_
 refine AF (D4 rfl (rfl) (Ai (AG (AI (AC Z Z ?_)))));refine J (DE (hfew) Z Z) (AC Z Z (J (DE (hfew2) Z Z) (AE Z Z (AE Z Z (AF (AG (AI (AC Z Z ?_))))))));refine H7 (IZ hplay rfl [40] ⟨rfl,trivial⟩ Z Z Z Z (fun r H' ⟨b,M,e1,e2,_⟩=>by subst e1 e2;exact ⟨rfl,rfl,rfl⟩) rfl) rfl ?_;rintro _ ⟨r,H',⟨b,M,e1,e2,hL⟩,rfl⟩;subst e1 e2;refine AC Z Z ?_
 first | refine J (B4 Z Z Z) ?_ | refine J (B5 Z Z Z) ?_
 first | refine J (B4 Z Z Z) ?_ | refine J (B5 Z Z Z) ?_
 refine U (HG 25 D6 Z Z Z Z) (AE Z Z (U (Bm Z Z Z Z Z Z Z Bd) (AF (AG (AI (AC Z Z ?_))))));refine H7 (IZ hplay2 rfl [41] ⟨rfl,trivial⟩ Z Z Z Z (fun r H' ⟨r0,H0,⟨b,M,e1,e2,_⟩,e3,e4⟩=>by subst e3 e4 e1 e2;exact ⟨rfl,rfl,rfl⟩) rfl) rfl ?_;rintro _ ⟨r,H',⟨r0,H0,⟨b2,M2,e1,e2,hL2⟩,e3,e4⟩,rfl⟩;subst e3 e4 e1 e2;refine AC Z Z ?_
 first | refine J (B4 Z Z Z) ?_ | refine J (B5 Z Z Z) ?_
 first | refine J (B4 Z Z Z) ?_ | refine J (B5 Z Z Z) ?_
 refine U (HG 26 D6 Z Z Z Z) ?_;refine AE Z Z (U (Bm Z Z Z Z Z Z Z Bd) (AF (AG (AG (Ee [[],[0],[0,1],[0,1,2],[0,1,2,3],[0,1,2,3,4],[0,1,2,3,4,5],[0,1,2,3,4,5,6],[0,1,2,3,4,5,6],[0,1,2,3,4,5,6,7,8],[0,1,2,3,4,5,6],[0,1,2,3,4,5,6],[0,1,2,3,4,5,6,7,8,9,10,11],[0,1,2,3,4,5,6,7,8,9,10,11,12],[0,1,2,3,4,5,6,7,8,9,10,11,12,13],[0,1,2,3,4,5,6,7,8,9,10,11,12,13,14],[0,1,2,3,4,5,6,7,8,9,10,11,12,13,14,15],[0,1,2,3,4,5,6,7,8,9,10,11,12,13,14,15,16],[0,1,2,3,4,5,6,7,8,9,10,11,12,13,14,15,16,17]] mixed rfl (BI 1 Z Z (AC Z Z (AF ⟨rfl,?_⟩))))))));refine BI 2 Z Z ?_
 first | refine J (EZ Z Z Z) ?_ | refine J (Ea Z Z Z) ?_ | refine J (EF Z Z Z) ?_ | refine J (E0 Try.underlying23 Z Z Z) ?_ | refine J (E5 Try.underlying23 Z Z Z) ?_ | refine J (E4 Try.underlying23 Z Z) ?_ | refine J (E9 Try.underlying23 Z Z) ?_ | refine J (E8 Try.underlying23 Z Z) ?_ | refine J (E3 Try.underlying23 Z Z Z) ?_ | refine J (E7 Try.underlying23 Z Z) ?_
 refine AF ⟨rfl,?_⟩;refine BI 3 Z Z (AC Z Z (CZ 30 rfl (rfl) (AF ⟨rfl,?_⟩)));refine BI 4 Z Z (A8 Z Z Z (AC Z Z (AF ⟨rfl,?_⟩)));refine BI 5 Z Z (A8 Z Z Z ?_)
 first | refine J (EZ Z Z Z) ?_ | refine J (Ea Z Z Z) ?_ | refine J (EF Z Z Z) ?_ | refine J (E0 Try.underlying23 Z Z Z) ?_ | refine J (E5 Try.underlying23 Z Z Z) ?_ | refine J (E4 Try.underlying23 Z Z) ?_ | refine J (E9 Try.underlying23 Z Z) ?_ | refine J (E8 Try.underlying23 Z Z) ?_ | refine J (E3 Try.underlying23 Z Z Z) ?_ | refine J (E7 Try.underlying23 Z Z) ?_
 refine AF ⟨rfl,?_⟩;refine BI 6 Z Z (J (Ey Z Z Z Z) (AF ⟨rfl,?_⟩));refine BI 7 Z Z (AC Z Z (CZ 34 rfl (rfl) (AF ⟨rfl,?_⟩)));refine DL ?_
 first | refine AD [5,34] [] Z Z (fun _=>Aw Z Z Z (A9 Z Z)) ?_ | refine AH [5,34] Z Z (fun _=>Aw Z Z Z (A9 Z Z)) ?_
 first | refine AD [7,34] [] Z Z (fun _=>Aw Z Z Z (A9 Z Z)) ?_ | refine AH [7,34] Z Z (fun _=>Aw Z Z Z (A9 Z Z)) ?_
 refine Bp [35,36,34] [40,41] [(37,_)] Z Z (fun _=>Qm Z Z Z (GD (OB hL hL2 hok hok2) rfl [40,41] ⟨rfl,rfl,trivial⟩ Z Z Z Z Z Z Z Z Z)) (.inr ⟨37,_,rfl,rfl,rfl,rfl,rfl⟩) Z Z Z Z Z ?_
 first | refine AD [6,34] [25] Z Z (fun _=>Aw Z Z Z (BN Z Z AK rfl)) ?_ | refine AD [6,34] [25] Z Z (fun _=>Aw Z Z Z (BO Z Z AK Z Z Z)) ?_ | refine AD [6,34] [25] Z Z (fun _=>Aw Z Z Z (BP Z Z (rfl) rfl AK rfl)) ?_
 first | refine AD [8,34] [26] Z Z (fun _=>Aw Z Z Z (BN Z Z AK rfl)) ?_ | refine AD [8,34] [26] Z Z (fun _=>Aw Z Z Z (BO Z Z AK Z Z Z)) ?_ | refine AD [8,34] [26] Z Z (fun _=>Aw Z Z Z (BP Z Z (rfl) rfl AK rfl)) ?_
 refine DM 12 Z Z Z (BI 13 Z Z (A8 Z Z Z (J (DE (Pf w v hok hok2 hK (by omega)) Z Z) (AF ⟨rfl,?_⟩))));refine BI 14 Z Z (A8 Z Z Z ?_)
 first | refine J (G3 Z Z Z) ?_ | refine J (G0 Z Z Z) ?_ | refine J (GX Z Z Z) ?_ | refine J (G4 Try.underlying4 Z Z Z) ?_ | refine J (G6 Try.underlying4 Z Z Z) ?_ | refine J (st_neqN Try.underlying4 Z Z) ?_ | refine J (GZ Try.underlying4 Z Z) ?_ | refine J (st_neqMz Try.underlying4 Z Z) ?_ | refine J (G5 Try.underlying4 Z Z Z) ?_ | refine J (st_neqFN Try.underlying4 Z Z) ?_
 refine AF ⟨rfl,?_⟩;refine BI 15 Z Z (J (Ey Z Z Z Z) (AF ⟨rfl,?_⟩));refine BI 16 Z Z (AC Z Z (CZ 43 rfl (by simp) (AF ⟨rfl,?_⟩)));refine BI 17 Z Z (A8 Z Z Z (AC Z Z (AF ⟨rfl,?_⟩)));refine BI 18 Z Z (A8 Z Z Z (J (DE (equalN2 _) Z Z) (AF ⟨rfl,?_⟩)));refine BI 19 Z Z (J (Ey Z Z Z Z) (AF ⟨rfl,?_⟩));refine ED (D4 rfl (rfl) (Ai (AG (AI (AC Z Z ?_)))));refine H7 (IZ ((OD hL).byX [(41,42)] rfl) rfl [40,42] ⟨rfl,rfl,trivial⟩ Z Z Z Z (fun r H' ⟨r0,H0,⟨b,M,e1,e2,_⟩,e3,e4⟩=>by subst e3 e4 e1 e2;exact ⟨rfl,rfl,rfl⟩) rfl) rfl ?_;rintro _ ⟨r,H',⟨r0,H0,⟨b1,M1,e1,e2,hC⟩,e3,e4⟩,rfl⟩;subst e3 e4 e1 e2;refine AE Z Z (AF (AG (AG (AI (AC Z Z ?_)))))
 first | refine J (EZ Z Z Z) ?_ | refine J (Ea Z Z Z) ?_ | refine J (EF Z Z Z) ?_ | refine J (E0 Try.underlying23 Z Z Z) ?_ | refine J (E5 Try.underlying23 Z Z Z) ?_ | refine J (E4 Try.underlying23 Z Z) ?_ | refine J (E9 Try.underlying23 Z Z) ?_ | refine J (E8 Try.underlying23 Z Z) ?_ | refine J (E3 Try.underlying23 Z Z Z) ?_ | refine J (E7 Try.underlying23 Z Z) ?_
 refine AC Z Z (CZ 51 rfl (rfl) (A8 Z Z Z (AC Z Z (A8 Z Z Z (AC Z Z (A8 Z Z Z (U (GD (Qp hC hL hok hok) rfl [42,40] ⟨rfl,rfl,trivial⟩ Z Z Z Z Z Z Z Z Z) (A8 Z Z Z ?_))))))))
 first | refine J (EG Z Z) ?_ | refine J (EE Z Z) ?_
 refine J (Ey Z Z Z Z) (AF (D4 rfl (by simp [O4]) (Ai (AG (AI ?_)))))
 first | refine J (BN Z Z AK rfl) ?_ | refine J (BO Z Z AK Z Z Z) ?_ | refine J (BP Z Z (rfl) rfl AK rfl) ?_
 refine U (HG 27 D6 Z Z Z Z) ?_;refine U (Bm Z Z Z Z Z Z Z Bd) (AF (AG (AG (AI (AE Z Z (AF (B7 (FC (α:=Nat×MF) (fun q=>⟨87,[(1,(.d (NJ m))),(5,(.d (pD b 0))),(6,(.ptr 25 0 0)),(9,(.d (pD b1 0))),(10,(.ptr 27 0 0)),(11,(.d (natD q.1)))],[(25,[.blk 35 [.d (stsD w.R),.d (It w.K)]]),(27,[.blk 35 [.d (stsD (opsF w (m.take q.1)).R),.d (It (opsF w (m.take q.1)).K)]]),(40,[.multi M]),(42,[.multi q.2])]⟩) (fun q=>q.1≤m.length∧BR q.2 b1 (opsF w (m.take q.1))) (fun q=>m.length - q.1) ((0,M1)) (⟨Nat.zero_le _,hC⟩) (BC hF [25,27,40,42] Z Z ⟨rfl,rfl,rfl,rfl,rfl,rfl,trivial⟩) ?_))))))));rintro ⟨k,N⟩ ⟨hk,hR⟩;dsimp only at hk hR⊢;refine AG (AG (AI (AC Z Z (AC Z Z (J (Br rfl (List.length_map ..) Try.underlying30 rfl) ?_)))))
 first | refine J (Ed Z Z Z) ?_ | refine J (Ef Z Z Z) ?_
 refine AF ?_
 first | refine BA rfl (fun h61=>?_) (fun h61=>?_) | refine Az rfl (fun h61=>?_) (fun h61=>?_)
 ·refine Ai (AG (B7 (AG ?_)));have hkl:k<m.length:=HB h61;have hIk:=Ls hInv m k hk;have hnk:=hIk.nK;refine AI (AC Z Z (AC Z Z (AC Z Z ?_)))
  first | refine J (BE (k) Z Z (rfl) (Hz hkl) Try.underlying30 rfl G8 rfl) ?_ | refine J (BF (k) Z Z (rfl) (Hz hkl) rfl Try.underlying30 G8 rfl) ?_
  first | refine J (BN Z Z FE rfl) ?_ | refine J (BO Z Z FE Z Z Z) ?_ | refine J (BP Z Z (rfl) rfl FE rfl) ?_
  refine H7 (IZ ((do_c hR hIk.ok (by omega) m[k]).byX [(40,42)] rfl) rfl [42] ⟨rfl,trivial⟩ Z Z Z Z (fun r H' ⟨r0,H0,⟨M,e1,e2,_⟩,e3,e4⟩=>by subst e3 e4 e1 e2;exact ⟨rfl,rfl,rfl⟩) rfl) rfl ?_;rintro _ ⟨r,H',⟨r0,H0,⟨N1,e1,e2,h1⟩,e3,e4⟩,rfl⟩;subst e3 e4 e1 e2;refine AF (Ee [[],[],[],[1,2],[1,2,3],[0,1,2,3,4],[0,1,2,3,4,5],[0,1,2,3,4,5,6],[0,1,2,3,4,5,6],[0,1,2,3,4,5,6,7]] mixed rfl (DL ?_))
  first | refine AD [10] [27] Z Z (fun _=>AB (BN Z Z AK rfl)) ?_ | refine AD [10] [27] Z Z (fun _=>AB (BO Z Z AK Z Z Z)) ?_ | refine AD [10] [27] Z Z (fun _=>AB (BP Z Z (rfl) rfl AK rfl)) ?_
  first | refine AD [1] [] Z Z (fun _=>AB (A9 Z Z)) ?_ | refine AH [1] Z Z (fun _=>AB (A9 Z Z)) ?_
  first | refine AD [11] [] Z Z (fun _=>AB (A9 Z Z)) ?_ | refine AH [11] Z Z (fun _=>AB (A9 Z Z)) ?_
  first | refine AD [72,73] [] Z Z (fun _=>AB (BE (k) Z Z (rfl) (Hz hkl) Try.underlying30 rfl G8 rfl)) ?_ | refine AH [72,73] Z Z (fun _=>AB (BE (k) Z Z (rfl) (Hz hkl) Try.underlying30 rfl G8 rfl)) ?_ | refine AD [72,73] [] Z Z (fun _=>AB (BF (k) Z Z (rfl) (Hz hkl) rfl Try.underlying30 G8 rfl)) ?_ | refine AH [72,73] Z Z (fun _=>AB (BF (k) Z Z (rfl) (Hz hkl) rfl Try.underlying30 G8 rfl)) ?_
  first | refine AD [74] [] Z Z (fun _=>AB (BN Z Z FE rfl)) ?_ | refine AH [74] Z Z (fun _=>AB (BN Z Z FE rfl)) ?_ | refine AD [74] [] Z Z (fun _=>AB (BO Z Z FE Z Z Z)) ?_ | refine AH [74] Z Z (fun _=>AB (BO Z Z FE Z Z Z)) ?_ | refine AD [74] [] Z Z (fun _=>AB (BP Z Z (rfl) rfl FE rfl)) ?_ | refine AH [74] Z Z (fun _=>AB (BP Z Z (rfl) rfl FE rfl)) ?_
  refine DM 5 Z Z Z (BI 6 Z Z (J (DE (Nr (opsF w (m.take k)) hIk.ok (by omega) m[k]) Z Z) (AF ⟨rfl,?_⟩)));refine BI 7 Z Z (AC Z Z (AF ⟨rfl,?_⟩));refine DL ?_
  first | refine AD [70] [] Z Z (fun _=>AB (B4 Z Z Z)) ?_ | refine AH [70] Z Z (fun _=>AB (B4 Z Z Z)) ?_ | refine AD [70] [] Z Z (fun _=>AB (B5 Z Z Z)) ?_ | refine AH [70] Z Z (fun _=>AB (B5 Z Z Z)) ?_
  first | refine AD [70] [] Z Z (fun _=>AB (B4 Z Z Z)) ?_ | refine AH [70] Z Z (fun _=>AB (B4 Z Z Z)) ?_ | refine AD [70] [] Z Z (fun _=>AB (B5 Z Z Z)) ?_ | refine AH [70] Z Z (fun _=>AB (B5 Z Z Z)) ?_
  refine Bp [10,77] [27] [] Z Z (fun _=>IC (Bm Z Z Z Z Z Z Z Bd)) (.inl ⟨rfl,rfl⟩) Z Z Z Z Z (DM 10 Z Z Z (ED (AI (AC Z Z (J (Cm Z Z (IntWalk.i64_in _ (by omega)) rfl) (AE Z Z (AF ?_)))))));exact ⟨(k+1,N1),⟨hkl,by show BR N1 b1 (opsF w (m.take (k+1)));rw [HS hkl];exact h1⟩,by show m.length - (k+1)<m.length - k;omega,BC hF [25,27,40,42] rfl (by simp only [HS hkl];rfl) ⟨rfl,rfl,rfl,rfl,rfl,rfl,trivial⟩⟩
 ·refine Dq (AG ?_);have hke:k=m.length:=by have:=h61;omega
  have hIe:=Ls hInv m m.length (Nat.le_refl _);rw [hke] at hR;rw [hke];have hnE:=hIe.nK;refine AI (AC Z Z ?_)
  first | refine J (BN Z Z AK rfl) ?_ | refine J (BO Z Z AK Z Z Z) ?_ | refine J (BP Z Z (rfl) rfl AK rfl) ?_
  refine U (GD (hseen hL) rfl [40] ⟨rfl,trivial⟩ Z Z Z Z Z Z Z Z Z) (AC Z Z (GM 82 rfl (rfl) (A8 Z Z Z (AC Z Z (A8 Z Z Z ?_)))))
  first | refine J (BN Z Z AK rfl) ?_ | refine J (BO Z Z AK Z Z Z) ?_ | refine J (BP Z Z (rfl) rfl AK rfl) ?_
  refine A8 Z Z Z (U (GD ((P6 hR hIe.ok hIe.acy (by omega) (Gw hIe.ok).1 (Gw hIe.ok).2).by [(40,42)] rfl) rfl [42] ⟨rfl,trivial⟩ Z Z Z Z Z Z Z Z Z) (J (G1 Z Z Z Z) (AE Z Z (AF (Au ?_)))));exact ⟨_,[],[],Aq rfl,rfl,rfl,rfl,rfl⟩
end Go.Proofs.Ytlmedakidpaeeaa
namespace Go.Proofs.Ytlmedakidpaeeaa
open Go.ChangeShapes Go.WideShapes Go.ChangeAt Go.RowKit
set_option maxRecDepth 100000 in
theorem linkClones_lifted (os:Os) (started:os.Started) (H:Type) (enc:TypeId×Value ->H):
  ReturnsInHanded {} Try.checked os 8 .any (Rows.linkClonesSpec.pre6 enc Try.prog Try.f8 Rows.linkClonesRow.domain false) (Rows.linkClonesSpec.post enc Try.prog Try.f8 false true false false):=by
 refine returnsInHanded_of_change_sized (C:=Try.checked) Try.own started (by kernel_rfl) Try.func8
  (ChangeSpec.witness6 (enc:=enc) (C:=Try.checked) false ⟨#[], #[.slice none 0 0,.slice none 0 0],[]⟩ 8 (by kernel_rfl) (by kernel_rfl) (by kernel_rfl) (by kernel_rfl)) ?_
 intro W base args ds gs before hval0 hW _ hwt _;have hW':=hW;obtain ⟨p,q,hA0,hV,rfl,_,_⟩:=hW;have hlt:∀x∈p++q,x.block<W.heap.size:=fun x hx=>hW'.lt x hx;have hA:DataW.TrodAll enc Try.prog W 0 (fun _=>true) true Try.f8.params.toList args.toList ds p:=hA0;rw [Try.params8] at hA;obtain ⟨v0,v1,d0,d1,p0,p1,rfl,rfl,rfl,h0,h1⟩:=trodAll_two hA;obtain ⟨rfl,rfl⟩:=trodVars_none hV;have hwz:∀n∈DataW.weightsEach Try.prog ([30,30]:List TypeId) ([d0,d1]),n≤reachBytes:=fun n hn=>of_decide_eq_true (List.all_eq_true.1 hwt n (by rw [Try.params8];exact hn));have hval:∀(j:Nat) t v,Try.f8.params[j]?=some t ->(#[v0,v1]:Array Value)[j]?=some v ->Value.okWide Try.prog W .any base t v:=hval0;rw [Try.params8] at hval;obtain ⟨n0,g0⟩:=h0;have hv0:v0.oneCell'=true:=by obtain ⟨_,_,_,e⟩:=okWide_slice Try.underlying30 (hval 0 30 v0 Z Z);rw [e];rfl
 obtain ⟨a0,q0,_,r0⟩:=(QA Try.underlying30 (by kernel_rfl) (by omega) (b:=48) (by kernel_rfl) (oOp)) _ _ _ g0 (fun x hx=>hlt x (by simp [hx])) (fun n hn=>hwz n (DataW.weights_mem_each (j:=0) (t:=30) rfl rfl n hn));obtain ⟨n1,g1⟩:=h1;have hv1:v1.oneCell'=true:=by obtain ⟨_,_,_,e⟩:=okWide_slice Try.underlying30 (hval 1 30 v1 Z Z);rw [e];rfl
 obtain ⟨a1,q1,_,r1⟩:=(QA Try.underlying30 (by kernel_rfl) (by omega) (b:=48) (by kernel_rfl) (oOp)) _ _ _ g1 (fun x hx=>hlt x (by simp [hx])) (fun n hn=>hwz n (DataW.weights_mem_each (j:=1) (t:=30) rfl rfl n hn));refine (Ot (law6_p a0 a1 (by have:=q0;unfold reachBytes at this;omega) (by have:=q1;unfold reachBytes at this;omega)) (vs:=[v0,v1]) rfl (fun i a v ha hv=>?_)).mono fun e W' ⟨he,hb⟩=>?_
 ·rcases i with _ | _ | i
  ·simp at ha hv;subst ha hv;exact Je.arg1 Z Z hv0 r0
  ·simp at ha hv;subst ha hv;exact Je.arg1 Z Z hv1 r1
  ·simp at ha
 subst he;exact ⟨_,rfl,Q9 (tb:=4) Try.laidOut (by kernel_rfl) Z Z Try.underlying4 hW' ⟨rfl,rfl,rfl⟩ hb⟩
theorem linkClones_holds:Rows.LinkClonesSaid:=
 OpenClaim.holds_of_wide 8 Try.f8 Z Z Z Z Z Z Z ⟨rfl,rfl,rfl,rfl,rfl⟩ Z Z Z Z Z (by kernel_rfl) Try.func8 (by kernel_rfl)
  (of_decide_eq_true (by kernel_rfl)) (by unfold Func.isWrapper;first | (rw [if_pos (by decide+kernel)];kernel_rfl) | (rw [if_neg (by decide+kernel)];exact ⟨rfl,rfl⟩))
  (fun os started H enc _=>linkClones_lifted os started H enc)
#print axioms linkClones_holds
end Go.Proofs.Ytlmedakidpaeeaa
