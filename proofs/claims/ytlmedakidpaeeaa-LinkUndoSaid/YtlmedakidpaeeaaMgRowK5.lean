/- Proved here: linkUndo_holds, the given statement Rows.LinkUndoSaid: the law girolaw27.LinkUndo returns true and does not panic, at every input that the statement speaks of; no condition beyond the statement. -/
/- 'girolaw27.LinkUndo': for every input the law returns true, and each argument reads behind the call as it read before. No condition. -/
import Derived.Test.YtlmedakidpaeeaaMg23
namespace Go.Proofs.Ytlmedakidpaeeaa
open Go.RowKit
section
variable {P:Program} {F:Fr} {s:AS} {d:Nat} {ty T T' E:TypeId} {pos:String} {aft:Array Edge} {g:Option (Nat×Bool)} {x:Operand}
theorem Gr {p:Option Addr} (hT:P.underlying T=some (.pointer E)) (hx:s.ev x=some (.d (.raw (.pointer p)))) (hd:Nat.blt d s.n=true):AA P F ⟨some d,.binOp .neq T x (.const (.pointer none)) T',ty,pos,aft,g⟩ s d (.d (.raw (.bool (!p.isNone)))):=
 Bl _ hd fun ρ act w hs=>by
  have hv:=hs.raw hx;have hp:P.pointee T=E:=by unfold Program.pointee;rw [hT]
  have hc:act.eval (.const (.pointer none))= .pointer none:=rfl;exact ⟨.bool (!p.isNone),by simp [execOp,hv,hc,Dj,binOp,run_equal_pointer_nil w T p (by rw [hp];exact hT)],.d (.raw rfl)⟩
end
theorem Jm (w:Ws):decide (I4 w w)=true:=decide_eq_true ⟨rfl,fun _=>Iff.rfl⟩
theorem OZ {w:Ws} {l:Lw} (h:l∉w.K):decide (I4 w (BB w l))=false:=decide_eq_false fun hs=>h ((hs.2 l).2 (List.mem_append_right _ (List.mem_singleton.2 rfl)))
theorem Iz {M N:MF} {b b2:Nat} {w w2:Ws} (h:BU M b w) (h2:BU N b2 w2) (hw:B7 w) (hw2:B7 w2):AR Try.prog 28 [.d (pD b 0),.d (pD b2 0)] [(41,[.multi M]),(40,[.multi N])] fun r H'=>r= .d (An (decide (I4 w w2)))∧H'=[(41,[.multi M]),(40,[.multi N])]:=
 (equal_c h h2 hw hw2).by [(40,41)] rfl
set_option maxRecDepth 100000 in
set_option maxHeartbeats 4000000 in
theorem law5_p (l0:List JO) (hl0:l0.length≤140737488355328) (from_:St) (x:Lk):Ba Try.prog 7 [.d (Pk l0),.d (AU from_),.d (lkD x)] (.raw (.bool true)):=by
 obtain ⟨l,hle⟩:∃l,l0.take 24=l:=⟨_,rfl⟩
 have hl:l.length≤24:=by rw [←hle,List.length_take];omega
 have hfew:=few_p l0 hl0;rw [hle] at hfew;have hInv:=Lq l l.length (Nat.le_refl _);rw [List.take_length] at hInv;have hplay:=play_c l (by omega)
 obtain ⟨w,hw⟩:∃w,opsW l=w:=⟨_,rfl⟩
 rw [hw] at hInv hplay;have hok:=hInv.ok;have hac:=hInv.acy;have hnK:=hInv.nK;have hK:w.K.length≤1000000:=by omega
 have hseen:=fun {M:MF} {b:Nat} (h:BU M b w)=>seen_c h hok hac hK (MW hok).1 (MW hok).2;have hlnk:=fun {M:MF} {b:Nat} (h:BU M b w)=>Ip h hok (by omega) ⟨from_,x.t,x.r⟩;have hInv2:=hInv.lnk ⟨from_,x.t,x.r⟩;refine DA Try.func7 Z Z Try.ntmps7 Z Z Z fun F hF=>?_;refine AF (AI (U (IT 20 Z Z Z Z Z Z Z) (AD Z Z (AG (AF (AF (AI (J (DZ (known_p) Z Z) ?_))))))))
 first | refine J (EZ Z Z) ?_ | refine J (EY Z Z) ?_
 refine AG (D0 rfl (rfl) (Ak (AF (AI (AC Z Z (J (DZ (hfew) Z Z) ?_))))));refine HZ (IS hplay rfl [40] ⟨rfl,trivial⟩ Z Z Z Z (fun r H' ⟨b,M,e1,e2,_⟩=>by subst e1 e2;exact ⟨rfl,rfl,rfl⟩) rfl) rfl ?_;rintro _ ⟨r,H',⟨b,M,e1,e2,hL⟩,rfl⟩;subst e1 e2;refine AC Z Z ?_
 first | refine J (B5 Z Z Z) ?_ | refine J (B6 Z Z Z) ?_
 first | refine J (B5 Z Z Z) ?_ | refine J (B6 Z Z Z) ?_
 refine U (Hm 25 EA Z Z Z Z) (AD Z Z (U (Bq Z Z Z Z Z Z Z Bf) (AG (AF (AI (AC Z Z ?_))))));refine HZ (IS (Ny hL) rfl [40,41] ⟨rfl,rfl,trivial⟩ Z Z Z Z (fun r H' ⟨b1,M1,e1,e2,_⟩=>by subst e1 e2;exact ⟨rfl,rfl,rfl⟩) rfl) rfl ?_;rintro _ ⟨r,H',⟨b1,M1,e1,e2,hC⟩,rfl⟩;subst e1 e2;refine AD Z Z (AG (AF (AF (AI (AC Z Z (AC Z Z ?_))))))
 first | refine J (BS Z Z Aj rfl) ?_ | refine J (BQ Z Z Aj Z Z Z) ?_ | refine J (BR Z Z (rfl) rfl Aj rfl) ?_
 refine HZ (IS (hlnk hL) rfl [40] ⟨rfl,trivial⟩ Z Z Z Z (fun r H' ⟨M,e1,e2,_⟩=>by subst e1 e2;exact ⟨rfl,rfl,rfl⟩) rfl) rfl ?_;rintro _ ⟨r,H',⟨M2,e1,e2,hL2⟩,rfl⟩;subst e1 e2
 first | refine J (Er Z Z Z) ?_ | refine J (FF Z Z Z) ?_ | refine J (En Z Z Z) ?_ | refine J (Et Try.underlying25 Z Z Z) ?_ | refine J (Ew Try.underlying25 Z Z Z) ?_ | refine J (Ev Try.underlying25 Z Z) ?_ | refine J (FE Try.underlying25 Z Z) ?_ | refine J (Ez Try.underlying25 Z Z) ?_ | refine J (Eu Try.underlying25 Z Z Z) ?_ | refine J (Ey Try.underlying25 Z Z) ?_
 refine AG ?_
 first | refine BC rfl (fun h24=>?_) (fun h24=>?_) | refine Az rfl (fun h24=>?_) (fun h24=>?_)
 ·refine AF ?_;obtain ⟨hw1,hn1,ha1,_⟩:=lnk_ok h24;have hub:=PP hn1 hac;rw [hw1] at hInv2 hL2;have hok2:=hInv2.ok;have hnK2:=hInv2.nK;have hun:=LV hL2 hok2 (by omega) ⟨from_,x.t,x.r⟩;rw [hub] at hun;refine AI (AC Z Z ?_);refine AC Z Z (U (F5 (Iz hC hL2 hok hok2) rfl [41,40] ⟨rfl,rfl,trivial⟩ Z Z Z Z Z Z Z Z Z) (AC Z Z (Ds 28 rfl (OZ hn1) (A1 Z Z Z (AC Z Z (A1 Z Z Z (AC Z Z (A1 Z Z Z ?_))))))))
  first | refine J (BS Z Z Aj rfl) ?_ | refine J (BQ Z Z Aj Z Z Z) ?_ | refine J (BR Z Z (rfl) rfl Aj rfl) ?_
  refine A1 Z Z Z ?_;refine HZ (IS hun rfl [40] ⟨rfl,trivial⟩ Z Z Z Z (fun r H' ⟨M,e1,e2,_⟩=>by subst e1 e2;exact ⟨rfl,rfl,rfl⟩) rfl) rfl ?_;rintro _ ⟨r,H',⟨M3,e1,e2,hL3⟩,rfl⟩;subst e1 e2;refine A1 Z Z Z ?_
  first | refine J (Gt Z Z Z) ?_ | refine J (Gs Z Z Z) ?_ | refine J (GY Z Z Z) ?_ | refine J (Gu Try.underlying25 Z Z Z) ?_ | refine J (Gw Try.underlying25 Z Z Z) ?_ | refine J (st_neqN Try.underlying25 Z Z) ?_ | refine J (Gr Try.underlying25 Z Z) ?_ | refine J (st_neqMz Try.underlying25 Z Z) ?_ | refine J (Gv Try.underlying25 Z Z Z) ?_ | refine J (st_neqFN Try.underlying25 Z Z) ?_
  refine J (Fo Z Z Z Z) (AG (D0 rfl (by simp) (Ak (AF ?_))))
  first | have hLf:=hL3 | have hLf:=hL2
  refine AI (AC Z Z ?_)
  first | refine J (Gt Z Z Z) ?_ | refine J (Gs Z Z Z) ?_ | refine J (GY Z Z Z) ?_ | refine J (Gu Try.underlying23 Z Z Z) ?_ | refine J (Gw Try.underlying23 Z Z Z) ?_ | refine J (st_neqN Try.underlying23 Z Z) ?_ | refine J (Gr Try.underlying23 Z Z) ?_ | refine J (st_neqMz Try.underlying23 Z Z) ?_ | refine J (Gv Try.underlying23 Z Z Z) ?_ | refine J (st_neqFN Try.underlying23 Z Z) ?_
  refine AC Z Z (Cy 37 rfl (rfl) (A1 Z Z Z (AC Z Z (A1 Z Z Z ?_))));refine AC Z Z (A1 Z Z Z (U (F5 (Iz hC hLf hok hok) rfl [41,40] ⟨rfl,rfl,trivial⟩ Z Z Z Z Z Z Z Z Z) (J (Fp Z Z Z Z) (AC Z Z (Cy 42 rfl (Jm w) (A1 Z Z Z (AC Z Z (A1 Z Z Z ?_))))))))
  first | refine J (BS Z Z AL rfl) ?_ | refine J (BQ Z Z AL Z Z Z) ?_ | refine J (BR Z Z (rfl) rfl AL rfl) ?_
  refine A1 Z Z Z (U (F5 (hseen hLf) rfl [40] ⟨rfl,trivial⟩ Z Z Z Z Z Z Z Z Z) (J (Fp Z Z Z Z) (AC Z Z (Cy 47 rfl (rfl) (A1 Z Z Z (AC Z Z (A1 Z Z Z ?_)))))))
  first | refine J (BS Z Z AL rfl) ?_ | refine J (BQ Z Z AL Z Z Z) ?_ | refine J (BR Z Z (rfl) rfl AL rfl) ?_
  refine A1 Z Z Z (U (F5 ((hseen hC).by [(40,41)] rfl) rfl [41] ⟨rfl,trivial⟩ Z Z Z Z Z Z Z Z Z) (J (Fp Z Z Z Z) (AD Z Z (AG (At ?_)))));exact ⟨_,[],[],Ar rfl,rfl,rfl,rfl,rfl⟩
 ·rw [lnk_no h24] at hL2;refine Ak (AF ?_)
  first | have hLf:=hL3 | have hLf:=hL2
  refine AI (AC Z Z ?_)
  first | refine J (Gt Z Z Z) ?_ | refine J (Gs Z Z Z) ?_ | refine J (GY Z Z Z) ?_ | refine J (Gu Try.underlying23 Z Z Z) ?_ | refine J (Gw Try.underlying23 Z Z Z) ?_ | refine J (st_neqN Try.underlying23 Z Z) ?_ | refine J (Gr Try.underlying23 Z Z) ?_ | refine J (st_neqMz Try.underlying23 Z Z) ?_ | refine J (Gv Try.underlying23 Z Z Z) ?_ | refine J (st_neqFN Try.underlying23 Z Z) ?_
  refine AC Z Z (Cy 37 rfl (rfl) (A1 Z Z Z (AC Z Z (A1 Z Z Z ?_))));refine AC Z Z (A1 Z Z Z (U (F5 (Iz hC hLf hok hok) rfl [41,40] ⟨rfl,rfl,trivial⟩ Z Z Z Z Z Z Z Z Z) (J (Fp Z Z Z Z) (AC Z Z (Cy 42 rfl (Jm w) (A1 Z Z Z (AC Z Z (A1 Z Z Z ?_))))))))
  first | refine J (BS Z Z AL rfl) ?_ | refine J (BQ Z Z AL Z Z Z) ?_ | refine J (BR Z Z (rfl) rfl AL rfl) ?_
  refine A1 Z Z Z (U (F5 (hseen hLf) rfl [40] ⟨rfl,trivial⟩ Z Z Z Z Z Z Z Z Z) (J (Fp Z Z Z Z) (AC Z Z (Cy 47 rfl (rfl) (A1 Z Z Z (AC Z Z (A1 Z Z Z ?_)))))))
  first | refine J (BS Z Z AL rfl) ?_ | refine J (BQ Z Z AL Z Z Z) ?_ | refine J (BR Z Z (rfl) rfl AL rfl) ?_
  refine A1 Z Z Z (U (F5 ((hseen hC).by [(40,41)] rfl) rfl [41] ⟨rfl,trivial⟩ Z Z Z Z Z Z Z Z Z) (J (Fp Z Z Z Z) (AD Z Z (AG (At ?_)))));exact ⟨_,[],[],Ar rfl,rfl,rfl,rfl,rfl⟩
end Go.Proofs.Ytlmedakidpaeeaa
namespace Go.Proofs.Ytlmedakidpaeeaa
open Go.ChangeShapes Go.WideShapes Go.ChangeAt Go.RowKit
set_option maxRecDepth 100000 in
theorem linkUndo_lifted (os:Os) (started:os.Started) (H:Type) (enc:TypeId×Value ->H):
  ReturnsInHanded {} Try.checked os 7 .any (Rows.linkUndoSpec.pre6 enc Try.prog Try.f7 Rows.linkUndoRow.domain false) (Rows.linkUndoSpec.post enc Try.prog Try.f7 false true false false):=by
 refine returnsInHanded_of_change_sized (C:=Try.checked) Try.own started (by kernel_rfl) Try.func7
  (ChangeSpec.witness6 (enc:=enc) (C:=Try.checked) false ⟨#[], #[.slice none 0 0,.string ⟨#[]⟩,.agg #[.int .i64 0,.string ⟨#[]⟩]],[]⟩ 8 (by kernel_rfl) (by kernel_rfl) (by kernel_rfl) (by kernel_rfl)) ?_
 intro W base args ds gs before hval0 hW _ hwt _;have hW':=hW;obtain ⟨p,q,hA0,hV,rfl,_,_⟩:=hW;have hlt:∀x∈p++q,x.block<W.heap.size:=fun x hx=>hW'.lt x hx;have hA:DataW.TrodAll enc Try.prog W 0 (fun _=>true) true Try.f7.params.toList args.toList ds p:=hA0;rw [Try.params7] at hA;obtain ⟨v0,v1,v2,d0,d1,d2,p0,p1,p2,rfl,rfl,rfl,h0,h1,h2⟩:=trodAll_three hA;obtain ⟨rfl,rfl⟩:=trodVars_none hV;have hwz:∀n∈DataW.weightsEach Try.prog ([30,9,39]:List TypeId) ([d0,d1,d2]),n≤reachBytes:=fun n hn=>of_decide_eq_true (List.all_eq_true.1 hwt n (by rw [Try.params7];exact hn));have hval:∀(j:Nat) t v,Try.f7.params[j]?=some t ->(#[v0,v1,v2]:Array Value)[j]?=some v ->Value.okWide Try.prog W .any base t v:=hval0;rw [Try.params7] at hval;obtain ⟨n0,g0⟩:=h0;have hv0:v0.oneCell'=true:=by obtain ⟨_,_,_,e⟩:=okWide_slice Try.underlying30 (hval 0 30 v0 Z Z);rw [e];rfl
 obtain ⟨a0,q0,_,r0⟩:=(openSl Try.underlying30 (by kernel_rfl) (by omega) (b:=48) (by kernel_rfl) (oOp)) _ _ _ g0 (fun x hx=>hlt x (by simp [hx])) (fun n hn=>hwz n (DataW.weights_mem_each (j:=0) (t:=30) rfl rfl n hn));obtain ⟨n1,g1⟩:=h1;have hv1:v1.oneCell'=true:=by obtain ⟨_,e⟩:=okWide_string Try.underlying9 (hval 1 9 v1 Z Z);rw [e];rfl
 obtain ⟨a1,q1,_,r1⟩:=(Ii Try.underlying9) _ _ _ g1 (fun x hx=>hlt x (by simp [hx])) (fun n hn=>hwz n (DataW.weights_mem_each (j:=1) (t:=9) rfl rfl n hn));obtain ⟨n2,g2⟩:=h2;obtain ⟨cs2,rfl,_⟩:=okWide_struct Try.underlying39 (hval 2 39 v2 rfl rfl);obtain ⟨a2,q2,_,r2⟩:=(oLk) _ _ _ g2 (fun x hx=>hlt x (by simp [hx])) (fun n hn=>hwz n (DataW.weights_mem_each (j:=2) (t:=39) rfl rfl n hn));refine (Ol (law5_p a0 (by have:=q0;unfold reachBytes at this;omega) a1 a2) (vs:=[v0,v1,.agg cs2]) rfl (fun i a v ha hv=>?_)).mono fun e W' ⟨he,hb⟩=>?_
 ·rcases i with _ | _ | _ | i
  ·simp at ha hv;subst ha hv;exact H4.arg1 Z Z hv0 r0
  ·simp at ha hv;subst ha hv;exact H4.arg1 Z Z hv1 r1
  ·simp at ha hv;subst ha hv;exact H4.argS rfl r2
  ·simp at ha
 subst he;exact ⟨_,rfl,QW (tb:=4) Try.laidOut (by kernel_rfl) Z Z Try.underlying4 hW' ⟨rfl,rfl,rfl⟩ hb⟩
theorem linkUndo_holds:Rows.LinkUndoSaid:=
 OpenClaim.holds_of_wide 7 Try.f7 Z Z Z Z Z Z Z ⟨rfl,rfl,rfl,rfl,rfl⟩ Z Z Z Z Z (by kernel_rfl) Try.func7 (by kernel_rfl)
  (of_decide_eq_true (by kernel_rfl)) (by unfold Func.isWrapper;first | (rw [if_pos (by decide+kernel)];kernel_rfl) | (rw [if_neg (by decide+kernel)];exact ⟨rfl,rfl⟩))
  (fun os started H enc _=>linkUndo_lifted os started H enc)
#print axioms linkUndo_holds
end Go.Proofs.Ytlmedakidpaeeaa
