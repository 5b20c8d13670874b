/- Proved here: linkOperations_holds, the given statement Rows.LinkOperationsSaid: the law girolaw27.LinkOperations returns true and does not panic, at every input that the statement speaks of; no condition beyond the statement. -/
/- 'girolaw27.LinkOperations': for every input the law returns true, and each argument reads behind the call as it read before. No condition. -/
import Derived.Test.YtlmedakidpaeeaaMg22
namespace Go.Proofs.Ytlmedakidpaeeaa
open Go.RowKit
set_option maxRecDepth 100000 in
set_option maxHeartbeats 4000000 in
theorem law2_p (l0:List JM) (hl0:l0.length≤140737488355328):B4 Try.prog 4 [.d (opsD l0)] (.raw (.bool true)):=by
 obtain ⟨l,hle⟩:∃l,l0.take 24=l:=⟨_,rfl⟩
 have hl:l.length≤24:=by rw [←hle,List.length_take];omega
 have hfew:=few_p l0 hl0;rw [hle] at hfew;refine DY Try.func4 Z Z Try.ntmps4 Z Z Z fun F hF=>(AG (AI (AD Z Z (AF (AG (AG (AI (J (DW (known_p) Z Z) ?_))))))))
 first | refine J (El Z Z) ?_ | refine J (Ek Z Z) ?_
 refine AF (Dk rfl (rfl) ?_);refine An (AG (AI (AC Z Z (J (DW (hfew) Z Z) (AD Z Z (AF (AG (AI ?_))))))));refine Iy (KN Pw rfl [40] ⟨rfl,trivial⟩ Z Z Z Z (fun r H' ⟨b,M,e1,e2,_⟩=>by subst e1 e2;exact ⟨rfl,rfl,rfl⟩) rfl) rfl ?_;rintro _ ⟨r,H',⟨b,M0,e1,e2,h0⟩,rfl⟩;subst e1 e2;refine J (M8 ES Lb Z Z Z) (U (IF 25 ES Z Z Z Z) (AD Z Z (U (Bu Z Z Z Z Z Z Z Bh) (AF ?_))));refine AG (AG (Nq 25 0 0 (stsD []) Z Z (fun _ _ _ h=>h.anyNil) Z Z (Nq 25 0 1 (Pz []) Z Z (fun _ _ _ h=>h.anyNil) Z Z (AI (AD Z Z (AF (B9 (Fm (α:=Nat×MF) (fun q=>⟨46,[(0,(.d (opsD l))),(3,(.d (pD b 0))),(4,(.ptr 25 0 0)),(5,(.d (natD q.1)))],[(25,[.blk 35 [.d (stsD (opsW (l.take q.1)).R),.d (Pz (opsW (l.take q.1)).K)]]),(40,[.multi q.2])]⟩) (fun q=>q.1≤l.length∧B7 q.2 b (opsW (l.take q.1))) (fun q=>l.length - q.1) ((0,M0)) (⟨Nat.zero_le _,h0⟩) (BK hF [25,40] Z Z ⟨rfl,rfl,rfl,rfl,trivial⟩) ?_))))))));rintro ⟨k,M⟩ ⟨hk,hR⟩;dsimp only at hk hR⊢;refine AG (AG (AI (AC Z Z (AC Z Z (J (CG rfl (List.length_map ..) Try.underlying30 rfl) ?_)))))
 first | refine J (Eo Z Z Z) ?_ | refine J (Ep Z Z Z) ?_
 refine AF ?_
 first | refine BG rfl (fun h17=>?_) (fun h17=>?_) | refine BB rfl (fun h17=>?_) (fun h17=>?_)
 ·refine An (AG (B9 (AG ?_)));have hkl:k<l.length:=H9 h17;have hInv:=P8 l k hk;have hnK:=hInv.nK;have hInv2:=hInv.op l[k];have hnK2:=hInv2.nK;refine Fh [[],[],[],[1,2],[1,2,3],[0,1,2,3,4],[0,1,2,3,4,5],[0,1,2,3,4,5,6],[0,1,2,3,4,5,6],[],[0,1,2,3,4,5,6,7,9],[0,1,2,3,4,5,6,7,8,9,10]] mixed rfl (EK ?_)
  first | refine AE [4] [25] Z Z (fun _=>AB (BW Z Z AP rfl)) ?_ | refine AE [4] [25] Z Z (fun _=>AB (BX Z Z AP Z Z Z)) ?_ | refine AE [4] [25] Z Z (fun _=>AB (BY Z Z (rfl) rfl AP rfl)) ?_
  first | refine AE [0] [] Z Z (fun _=>AB (Aa Z Z)) ?_ | refine AH [0] Z Z (fun _=>AB (Aa Z Z)) ?_
  first | refine AE [5] [] Z Z (fun _=>AB (Aa Z Z)) ?_ | refine AH [5] Z Z (fun _=>AB (Aa Z Z)) ?_
  first | refine AE [22,23] [] Z Z (fun _=>AB (BM (k) Z Z (rfl) (Od hkl) Try.underlying30 rfl LL rfl)) ?_ | refine AH [22,23] Z Z (fun _=>AB (BM (k) Z Z (rfl) (Od hkl) Try.underlying30 rfl LL rfl)) ?_ | refine AE [22,23] [] Z Z (fun _=>AB (BN (k) Z Z (rfl) (Od hkl) rfl Try.underlying30 LL rfl)) ?_ | refine AH [22,23] Z Z (fun _=>AB (BN (k) Z Z (rfl) (Od hkl) rfl Try.underlying30 LL rfl)) ?_
  first | refine AE [24] [] Z Z (fun _=>AB (BW Z Z K4 rfl)) ?_ | refine AH [24] Z Z (fun _=>AB (BW Z Z K4 rfl)) ?_ | refine AE [24] [] Z Z (fun _=>AB (BX Z Z K4 Z Z Z)) ?_ | refine AH [24] Z Z (fun _=>AB (BX Z Z K4 Z Z Z)) ?_ | refine AE [24] [] Z Z (fun _=>AB (BY Z Z (rfl) rfl K4 rfl)) ?_ | refine AH [24] Z Z (fun _=>AB (BY Z Z (rfl) rfl K4 rfl)) ?_
  first | refine AE [21,25] [] Z Z (fun _=>AB (DW (Nc (opsW (l.take k)) hInv.ok (by omega) l[k]) Z Z)) ?_ | refine AH [21,25] Z Z (fun _=>AB (DW (Nc (opsW (l.take k)) hInv.ok (by omega) l[k]) Z Z)) ?_
  first | refine AE [26] [] Z Z (fun _=>AB (Aa Z Z)) ?_ | refine AH [26] Z Z (fun _=>AB (Aa Z Z)) ?_
  first | refine AE [20] [] Z Z (fun _=>AB (Bo Z Z Z)) ?_ | refine AH [20] Z Z (fun _=>AB (Bo Z Z Z)) ?_ | refine AE [20] [] Z Z (fun _=>AB (Bn Z Z Z)) ?_ | refine AH [20] Z Z (fun _=>AB (Bn Z Z Z)) ?_
  first | refine AE [20] [] Z Z (fun _=>AB (Bo Z Z Z)) ?_ | refine AH [20] Z Z (fun _=>AB (Bo Z Z Z)) ?_ | refine AE [20] [] Z Z (fun _=>AB (Bn Z Z Z)) ?_ | refine AH [20] Z Z (fun _=>AB (Bn Z Z Z)) ?_
  refine Bs [] [26] [(6,_)] Z Z (fun _=>Hl (IF 26 ES Z Z Z Z)) (.inr ⟨6,_,rfl,rfl,rfl,rfl,rfl⟩) Z Z Z Z Z (Bs [6,27] [26] [] Z Z (fun _=>Hl (Bu Z Z Z Z Z Z Z Bh)) (.inl ⟨rfl,rfl⟩) Z Z Z Z Z (EL 11 Z Z Z (B6 12 Z Z (AD Z Z (AF ⟨rfl,?_⟩)))));refine Es (AG (AG (AI (AC Z Z ?_))))
  first | refine J (FP Z Z Z) ?_ | refine J (FX Z Z Z) ?_ | refine J (Et Z Z Z) ?_ | refine J (FQ Try.underlying23 Z Z Z) ?_ | refine J (FT Try.underlying23 Z Z Z) ?_ | refine J (fSq Try.underlying23 Z Z) ?_ | refine J (FW Try.underlying23 Z Z) ?_ | refine J (FV Try.underlying23 Z Z) ?_ | refine J (FR Try.underlying23 Z Z Z) ?_ | refine J (FU Try.underlying23 Z Z) ?_
  refine AC Z Z (E0 31 rfl (rfl) (Ab Z Z Z (AC Z Z (Ab Z Z Z (AC Z Z (Ab Z Z Z (AC Z Z (Ab Z Z Z ?_))))))))
  first | refine J (BM (k) Z Z (rfl) (Od hkl) Try.underlying30 rfl LL rfl) ?_ | refine J (BN (k) Z Z (rfl) (Od hkl) rfl Try.underlying30 LL rfl) ?_
  refine Ab Z Z Z ?_
  first | refine J (BW Z Z K4 rfl) ?_ | refine J (BX Z Z K4 Z Z Z) ?_ | refine J (BY Z Z (rfl) rfl K4 rfl) ?_
  refine Ab Z Z Z ?_;refine Iy (KN (do_c hR hInv.ok (by omega) l[k]) rfl [40] ⟨rfl,trivial⟩ Z Z Z Z (fun r H' ⟨M,e1,e2,_⟩=>by subst e1 e2;exact ⟨rfl,rfl,rfl⟩) rfl) rfl ?_;rintro _ ⟨r,H',⟨M1,e1,e2,h1⟩,rfl⟩;subst e1 e2;refine Ab Z Z Z (AC Z Z (Ab Z Z Z ?_))
  first | refine J (IH Z Z Z) ?_ | refine J (IG Z Z Z) ?_ | refine J (Hm Z Z Z) ?_ | refine J (IB Try.underlying3 Z Z Z) ?_ | refine J (ID Try.underlying3 Z Z Z) ?_ | refine J (st_neqN Try.underlying3 Z Z) ?_ | refine J (st_neqPr Try.underlying3 Z Z) ?_ | refine J (st_neqMz Try.underlying3 Z Z) ?_ | refine J (IC Try.underlying3 Z Z Z) ?_ | refine J (st_neqFN Try.underlying3 Z Z) ?_
  refine J (GR Z Z Z Z) (AF (Dk rfl (by simp) (An (AG (AI ?_)))))
  first | refine J (BW Z Z AP rfl) ?_ | refine J (BX Z Z AP Z Z Z) ?_ | refine J (BY Z Z (rfl) rfl AP rfl) ?_
  refine U (Bu Z Z Z Z Z Z Z Bh) (AF (AG (AI (AC Z Z ?_))))
  first | refine J (BW Z Z AP rfl) ?_ | refine J (BX Z Z AP Z Z Z) ?_ | refine J (BY Z Z (rfl) rfl AP rfl) ?_
  refine U (HM (seen_c h1 hInv2.ok hInv2.acy (by omega) (ML hInv2.ok).1 (ML hInv2.ok).2) rfl [40] ⟨rfl,trivial⟩ Z Z Z Z Z Z Z Z Z) ?_
  first | refine J (El Z Z) ?_ | refine J (Ek Z Z) ?_
  refine AF (Dk rfl (rfl) (An (AI (AC Z Z (J (DA Z Z (IntWalk.i64_in _ (by omega)) rfl) (AD Z Z (AF ?_)))))));exact ⟨(k+1,M1),⟨hkl,by show B7 M1 b (opsW (l.take (k+1)));rw [HA hkl];exact h1⟩,by show l.length - (k+1)<l.length - k;omega,BK hF [25,40] rfl (by simp only [HA hkl];rfl) ⟨rfl,rfl,rfl,rfl,trivial⟩⟩
 ·refine Eg (AG (AI (AD Z Z (AF (Ay ?_)))));exact ⟨_,[],[],Av rfl,rfl,rfl,rfl,rfl⟩
end Go.Proofs.Ytlmedakidpaeeaa
namespace Go.Proofs.Ytlmedakidpaeeaa
open Go.ChangeShapes Go.WideShapes Go.ChangeAt Go.RowKit
set_option maxRecDepth 100000 in
theorem linkOperations_lifted (os:Os) (started:os.Started) (H:Type) (enc:TypeId×Value ->H):
  ReturnsInHanded {} Try.checked os 4 .any (Rows.linkOperationsSpec.pre6 enc Try.prog Try.f4 Rows.linkOperationsRow.domain false) (Rows.linkOperationsSpec.post enc Try.prog Try.f4 false true false false):=by
 refine returnsInHanded_of_change_sized (C:=Try.checked) Try.own started (by kernel_rfl) Try.func4
  (ChangeSpec.witness6 (enc:=enc) (C:=Try.checked) false ⟨#[], #[.slice none 0 0],[]⟩ 8 (by kernel_rfl) (by kernel_rfl) (by kernel_rfl) (by kernel_rfl)) ?_
 intro W base args ds gs before hval0 hW _ hwt _;have hW':=hW;obtain ⟨p,q,hA0,hV,rfl,_,_⟩:=hW;have hlt:∀x∈p++q,x.block<W.heap.size:=fun x hx=>hW'.lt x hx;have hA:DataW.TrodAll enc Try.prog W 0 (fun _=>true) true Try.f4.params.toList args.toList ds p:=hA0;rw [Try.params4] at hA;obtain ⟨v0,d0,rfl,rfl,h0⟩:=trodAll_one hA;obtain ⟨rfl,rfl⟩:=trodVars_none hV;have hwz:∀n∈DataW.weightsEach Try.prog ([30]:List TypeId) ([d0]),n≤reachBytes:=fun n hn=>of_decide_eq_true (List.all_eq_true.1 hwt n (by rw [Try.params4];exact hn));have hval:∀(j:Nat) t v,Try.f4.params[j]?=some t ->(#[v0]:Array Value)[j]?=some v ->Value.okWide Try.prog W .any base t v:=hval0;rw [Try.params4] at hval;obtain ⟨n0,g0⟩:=h0;have hv0:v0.oneCell'=true:=by obtain ⟨_,_,_,e⟩:=okWide_slice Try.underlying30 (hval 0 30 v0 Z Z);rw [e];rfl
 obtain ⟨a0,q0,_,r0⟩:=(openSl Try.underlying30 (by kernel_rfl) (by omega) (b:=48) (by kernel_rfl) (oOp)) _ _ _ g0 (fun x hx=>hlt x (by simp [hx])) (fun n hn=>hwz n (DataW.weights_mem_each (j:=0) (t:=30) rfl rfl n hn));refine (O8 (law2_p a0 (by have:=q0;unfold reachBytes at this;omega)) (vs:=[v0]) rfl (fun i a v ha hv=>?_)).mono fun e W' ⟨he,hb⟩=>?_
 ·rcases i with _ | i
  ·simp at ha hv;subst ha hv;exact Kz.arg1 Z Z hv0 r0
  ·simp at ha
 subst he;exact ⟨_,rfl,QK (tb:=4) Try.laidOut (by kernel_rfl) Z Z Try.underlying4 hW' ⟨rfl,rfl,rfl⟩ hb⟩
theorem linkOperations_holds:Rows.LinkOperationsSaid:=
 OpenClaim.holds_of_wide 4 Try.f4 Z Z Z Z Z Z Z ⟨rfl,rfl,rfl,rfl,rfl⟩ Z Z Z Z Z (by kernel_rfl) Try.func4 (by kernel_rfl)
  (of_decide_eq_true (by kernel_rfl)) (by unfold Func.isWrapper;first | (rw [if_pos (by decide+kernel)];kernel_rfl) | (rw [if_neg (by decide+kernel)];exact ⟨rfl,rfl⟩))
  (fun os started H enc _=>linkOperations_lifted os started H enc)
#print axioms linkOperations_holds
end Go.Proofs.Ytlmedakidpaeeaa
