/- Proved here: offsetLargest_holds, the given statement Rows.OffsetLargestSaid: the law girolaw30.OffsetLargest returns true and does not panic, at every input that the statement speaks of; no condition beyond the statement. -/
/- 'girolaw30.OffsetLargest': for every input the law returns true, and each argument reads behind the call as it read before. No condition. -/
import Derived.Test.YtneihdahboilnaaGreatMg28
namespace Go.Proofs.YtneihdahboilnaaGreat
open Go.RowKit

set_option maxRecDepth 100000 in
set_option maxHeartbeats 1000000 in
theorem lawO1_p (p : Prb) : PCalls Tryz.prog 3 [.d (prbD p)] (.raw (.bool true)) := by
  have hk := Zcv;have hs := few_p p 9 (by decide)
  by_cases hf : FewQ p 9
  · rw [decide_eq_true hf] at hs;have hF := few_of hf (by decide);have g1 := hF.i;have g2 := hF.r;have ck := ZbT p (by omega) (by omega) (fun i hi => by have := hF.x i hi; omega);have c1 := own30_p p hF
    by_cases hp : prbE p = 0
    · rw [hp] at ck;have hll := Zcc hp;have cl := Zch p hF hp;have cu := union30_p p hF hp (by have := hf.1; omega);rw [union_large hp hF] at cu;have cs := same30_p (largeS p) (largeS p) (by omega) (by omega);rw [decide_eq_true rfl] at cs;have cfe := feasible30_p p hF hp (largeS p) (by omega) fun id h => large_ids hp h;rw [decide_eq_true (large_feas hp hF)] at cfe;refine Zaz Tryz.func3 rfl rfl Tryz.ntmps3 rfl rfl rfl fun F hF => (Zaf (Zab (Zal.go (ZaO 1 rfl rfl rfl rfl rfl rfl rfl) ?_)));refine Zaa.go (Zad rfl rfl) (Zae (Zaf (Zaf (Zab (Zaa.go (Zap rfl rfl rw25 rfl rfl rfl) (Zaa.go (Zan (hs) rfl rfl) (Zaa.go (Za8 rfl rfl) (Zae ?_))))))));refine ZaU rfl (rfl) (Zaq (Zaf (Zab (Zaa.go (Zap rfl rfl rw25 rfl rfl rfl) (Zaa.go (Zan (c1) rfl rfl) (Zaa.go (Zan (cl) rfl rfl) (Zaa.go (Zac rfl rfl) (Zaa.go (Zau rfl rfl rfl) ?_))))))));refine Zaa.go (Zau rfl rfl rfl) (Zaa.go (Zad rfl rfl) (Zaa.go (Zad rfl rfl) (Zae (Zaf (Zaf (Zab (Zaa.go (Zap rfl rfl rw25 rfl rfl rfl) (Zaa.go (Zan (ck) rfl rfl) ?_))))))));refine Zaa.go (Zad rfl rfl) (Zae (Zaf (Zab (Zaa.go (Zac rfl rfl) (Zaa.go (ZaX rfl rfl rfl) (Zae (ZaU rfl (rfl) (Zaq ?_))))))));refine Zaf (Zab (Zaa.go (Zap rfl rfl rw25 rfl rfl rfl) (Zaa.go (Zan (cu) rfl rfl) (Zaa.go (Zad rfl rfl) (Zae (Zaf (Zab (Zaa.go (Zac rfl rfl) ?_))))))));refine Zaa.go (Za1 rfl rfl rfl) (Zaa.go (Zac rfl rfl) (Za2 36 rfl (rfl) (Zam rfl rfl rfl (Zaa.go (Zac rfl rfl) (Zam rfl rfl rfl (Zaa.go (Zac rfl rfl) (Zam rfl rfl rfl (Zaa.go (Zan (cs) rfl rfl) ?_))))))));refine Zaa.go (Zaw rfl rfl rfl rfl) (Zaa.go (Zac rfl rfl) (Za2 41 rfl (rfl) (Zam rfl rfl rfl (Zaa.go (Zap rfl rfl rw25 rfl rfl rfl) (Zam rfl rfl rfl (Zaa.go (Zac rfl rfl) (Zam rfl rfl rfl (Zaa.go (Zan (cfe) rfl rfl) ?_))))))));refine Zaa.go (Zaw rfl rfl rfl rfl) (Zaa.go (Zac rfl rfl) (Za2 46 rfl (rfl) (Zam rfl rfl rfl (Zaa.go (Zan (hk) rfl rfl) (Zaa.go (Zaw rfl rfl rfl rfl) (Zaa.go (Zad rfl rfl) (Zae (Zas ?_))))))));exact ⟨_, [], [], Zao rfl, rfl, rfl, rfl, rfl⟩
    · have cl := largest_bad p hF hp;refine Zaz Tryz.func3 rfl rfl Tryz.ntmps3 rfl rfl rfl fun F hF => (Zaf (Zab (Zal.go (ZaO 1 rfl rfl rfl rfl rfl rfl rfl) (Zaa.go (Zad rfl rfl) (Zae (Zaf ?_))))));refine Zaf (Zab (Zaa.go (Zap rfl rfl rw25 rfl rfl rfl) (Zaa.go (Zan (hs) rfl rfl) (Zaa.go (Za8 rfl rfl) (Zae (ZaU rfl (rfl) (Zaq (Zaf ?_))))))));refine Zab (Zaa.go (Zap rfl rfl rw25 rfl rfl rfl) (Zaa.go (Zan (c1) rfl rfl) (Zaa.go (Zan (cl) rfl rfl) (Zaa.go (Zac rfl rfl) (Zaa.go (Zau rfl rfl rfl) (Zaa.go (Zau rfl rfl rfl) (Zaa.go (Zad rfl rfl) (Zaa.go (Zad rfl rfl) ?_))))))));refine Zae (Zaf (Zaf (Zab (Zaa.go (Zap rfl rfl rw25 rfl rfl rfl) (Zaa.go (Zan (ck) rfl rfl) (Zaa.go (Zad rfl rfl) (Zae (Zaf ?_))))))));refine Zab (Zaa.go (Zac rfl rfl) (Zaa.go (ZaX rfl rfl rfl) (Zae (ZaQ rfl ((decide_eq_true hp)) (Zaf (Zab (Zaa.go (Zac rfl rfl) (Zaa.go (Zac rfl rfl) ?_))))))));refine Zaa.go (Za1 rfl rfl rfl) (Zaa.go (Zac rfl rfl) (Za2 24 rfl ((decide_eq_true rfl)) (Zam rfl rfl rfl (Zaa.go (Zac rfl rfl) (Zam rfl rfl rfl (Zaa.go (st_lenD rfl rfl Tryz.underlying28 rfl) (Zam rfl rfl rfl (Zaa.go (Za1 rfl rfl rfl) ?_))))))));refine Zaa.go (Zaw rfl rfl rfl rfl) (Zaa.go (Zac rfl rfl) (Za2 29 rfl (rfl) (Zam rfl rfl rfl (Zaa.go (Zan (hk) rfl rfl) (Zaa.go (Zaw rfl rfl rfl rfl) (Zaa.go (Zad rfl rfl) (Zae (Zas ?_))))))));exact ⟨_, [], [], Zao rfl, rfl, rfl, rfl, rfl⟩
  · rw [decide_eq_false hf] at hs;refine Zaz Tryz.func3 rfl rfl Tryz.ntmps3 rfl rfl rfl fun F hF => (Zaf ?_);refine Zab (Zal.go (ZaO 1 rfl rfl rfl rfl rfl rfl rfl) (Zaa.go (Zad rfl rfl) (Zae (Zaf (Zaf (Zab (Zaa.go (Zap rfl rfl rw25 rfl rfl rfl) (Zaa.go (Zan (hs) rfl rfl) ?_))))))));refine Zaa.go (Za8 rfl rfl) (Zae (ZaQ rfl (rfl) (Zaf (Zab (Zaa.go (Zan (hk) rfl rfl) (Zaa.go (Zad rfl rfl) (Zae (Zas ?_))))))));exact ⟨_, [], [], Zao rfl, rfl, rfl, rfl, rfl⟩
end Go.Proofs.YtneihdahboilnaaGreat
namespace Go.Proofs.YtneihdahboilnaaGreat
open Go.ChangeShapes Go.WideShapes Go.ChangeAt Go.RowKit

set_option maxRecDepth 100000 in
theorem offsetLargest_lifted (os : Os) (started : os.Started) (H : Type) (enc : TypeId × Value → H) :
    ReturnsInHanded {} Tryz.checked os 3 .any (Rows.offsetLargestSpec.pre6 enc Tryz.prog Tryz.f3 Rows.offsetLargestRow.domain false) (Rows.offsetLargestSpec.post enc Tryz.prog Tryz.f3 false true false false) := by
  refine returnsInHanded_of_change_sized (C := Tryz.checked) Tryz.own started (by kernel_rfl) Tryz.func3
    (ChangeSpec.witness6 (enc := enc) (C := Tryz.checked) false ⟨#[], #[.agg #[.slice none 0 0, .slice none 0 0]], []⟩ 8 (by kernel_rfl) (by kernel_rfl) (by kernel_rfl) (by kernel_rfl)) ?_
  intro W base args ds gs before hval0 hW _ hwt _;have hW' := hW;obtain ⟨p, q, hA0, hV, rfl, _, _⟩ := hW;have hlt : ∀ x ∈ p ++ q, x.block < W.heap.size := fun x hx => hW'.lt x hx;have hA : DataW.TrodAll enc Tryz.prog W 0 (fun _ => true) true Tryz.f3.params.toList args.toList ds p := hA0;rw [Tryz.params3] at hA;obtain ⟨v0, d0, rfl, rfl, h0⟩ := trodAll_one hA;obtain ⟨rfl, rfl⟩ := trodVars_none hV;have hwz : ∀ n ∈ DataW.weightsEach Tryz.prog ([25] : List TypeId) ([d0]), n ≤ reachBytes := fun n hn => of_decide_eq_true (List.all_eq_true.1 hwt n (by rw [Tryz.params3]; exact hn));have hval : ∀ (j : Nat) t v, Tryz.f3.params[j]? = some t → (#[v0] : Array Value)[j]? = some v → Value.okWide Tryz.prog W .any base t v := hval0;rw [Tryz.params3] at hval;obtain ⟨n0, g0⟩ := h0;obtain ⟨cs0, rfl, _⟩ := okWide_struct Tryz.underlying25 (hval 0 25 v0 rfl rfl);obtain ⟨a0, q0, _, r0⟩ := (oPrb) _ _ _ g0 (fun x hx => hlt x (by simp [hx])) (fun n hn => hwz n (DataW.weights_mem_each (j := 0) (t := 25) rfl rfl n hn));refine (Zcu (lawO1_p a0) (vs := [.agg cs0]) rfl (fun i a v ha hv => ?_)).mono fun e W' ⟨he, hb⟩ => ?_
  · rcases i with _ | i
    · simp at ha hv; subst ha hv; exact RepC.argS rfl r0
    · simp at ha
  subst he;exact ⟨_, rfl, law_post (tb := 4) Tryz.laidOut (by kernel_rfl) rfl rfl Tryz.underlying4 hW' ⟨rfl, rfl, rfl⟩ hb⟩

theorem offsetLargest_holds : Rows.OffsetLargestSaid :=
  OpenClaim.holds_of_wide 3 Tryz.f3 rfl rfl rfl rfl rfl rfl rfl ⟨rfl, rfl, rfl, rfl, rfl⟩ rfl rfl rfl rfl rfl (by kernel_rfl) Tryz.func3 (by kernel_rfl)
    (of_decide_eq_true (by kernel_rfl)) (by unfold Func.isWrapper; first | (rw [if_pos (by decide +kernel)]; kernel_rfl) | (rw [if_neg (by decide +kernel)]; exact ⟨rfl, rfl⟩))
    (fun os started H enc _ => offsetLargest_lifted os started H enc)
#print axioms offsetLargest_holds

end Go.Proofs.YtneihdahboilnaaGreat
