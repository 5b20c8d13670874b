/- Proved here: sccCycle_holds, the given statement Rows.SccCycleSaid: the law girolaw31.SccCycle returns true and does not panic, at every input that the statement speaks of; no condition beyond the statement. -/
/- 'girolaw31.SccCycle': for every input the law returns true, and each argument reads behind the call as it read before. No condition. -/
import Derived.Test.YtgdppeobgefogaaMg19
namespace Go.Proofs.Ytgdppeobgefogaa
open Go.RowKit
set_option maxRecDepth 100000 in
theorem lawS5_p (g0 : List (List Int)) (hg : g0.length ≤ 140737488355328) (hl : ∀ l ∈ g0, l.length ≤ 140737488355328) : PCalls Try.prog 3 [.d (grI g0)] (boolD true) := by
  obtain ⟨k, hk⟩ : ∃ k, min g0.length 9 = k := ⟨_, rfl⟩
  have hgt := smlG_gt (g0.take k);have hsm := small_p (g0.take k) (by rw [List.length_take]; omega) (fun l hl' => hl l (List.mem_of_mem_take hl'))
  obtain ⟨g, hge⟩ : ∃ g, smlG (g0.take k) = g := ⟨_, rfl⟩
  rw [hge] at hgt hsm;have hn := hgt.gb.n;have hrc := refcyc_p g hgt.gb;refine Zbj Try.func3 rfl rfl Try.ntmps3 rfl rfl rfl fun F hF => (Zag (Zae (goAs rfl rfl (Zaf (Zag (Zag (Zae (Zab.go (Zbq (known_p) rfl rfl) ?_))))))))
  first | refine Zab.go (st_notP rfl rfl) ?_ | refine Zab.go (st_not rfl rfl) ?_
  refine Zaf (Zbx rfl (rfl) (ZaD (Zag (Zae (goMv rfl rfl (goMv rfl rfl ?_))))));refine Zab.go (ZaC rfl (List.length_map ..) Try.underlying22 rfl) (Zab.go (st_min rfl rfl ((show (if (9 : Int) < (g0.length : Int) then (9 : Int) else (g0.length : Int)) = (k : Int) by split <;> omega)) rfl) (Zab.go (st_sliceHiM (g0) (k) rfl rfl rfl (rfl) (by omega) Try.underlying22 sz25 (fun _ => rfl) rfl) (Zab.go (Zbq (hsm) rfl rfl) (goAs rfl rfl (Zaf (Zag (Zae (goMv rfl rfl ?_))))))));refine o_step (st_callX (cycle_c g hgt) rfl [] trivial rfl rfl rfl rfl (fun r H' ⟨best, out, h1, h2, h3⟩ => by subst h2 h3; exact ⟨rfl, rfl, rfl⟩) rfl) rfl ?_; rintro _ ⟨r, H', ⟨best, out, hC, rfl, rfl⟩, rfl⟩;refine goMv rfl rfl ?_
  first | refine Zab.go (ZaQ rfl rfl rfl) ?_ | refine Zab.go (ZaV rfl rfl rfl) ?_
  first | refine Zab.go (ZaQ rfl rfl rfl) ?_ | refine Zab.go (ZaV rfl rfl rfl) ?_
  first | refine Zab.go (ZaQ rfl rfl rfl) ?_ | refine Zab.go (ZaV rfl rfl rfl) ?_
  refine goAs rfl rfl (goAs rfl rfl ?_);refine goAs rfl rfl (Zaf (Zag (Zae (goMv rfl rfl (Zab.go (Zbq (hrc) rfl rfl) (goAs rfl rfl (Zaf (Zag ?_))))))));have hcy := cyc_ref hgt hC;rw [hcy];have hol := ci_len hgt hC;refine Zae ?_;rcases Classical.em (out = []) with hout | hout
  · refine goMv rfl rfl ?_;subst hout; rw [if_pos rfl]; refine o_anyNil 6 rfl ?_
    first | refine Zab.go (Zbn rfl rfl rfl) ?_ | refine Zab.go (Za0 rfl rfl rfl) ?_ | refine Zab.go (Za7 rfl rfl rfl) ?_ | refine Zab.go (Zbc Try.underlying26 rfl rfl rfl) ?_ | refine Zab.go (Za9 Try.underlying26 rfl rfl rfl) ?_ | refine Zab.go (Zba Try.underlying26 rfl rfl) ?_ | refine Zab.go (Zbb Try.underlying26 rfl rfl rfl) ?_ | refine Zab.go (Za1 Try.underlying26 rfl rfl) ?_
    refine goMv rfl rfl (o_setT 25 rfl (rfl) (ZaH rfl rfl rfl (goMv rfl rfl (ZaH rfl rfl rfl (goMv rfl rfl (ZaH rfl rfl rfl (Zab.go (ZaC rfl rfl Try.underlying25 rfl) (ZaH rfl rfl rfl ?_))))))))
    first | refine Zab.go (st_gtr rfl rfl rfl) ?_ | refine Zab.go (ZbA rfl rfl rfl) ?_
    refine ZaH rfl rfl rfl ?_
    first | refine Zab.go (Zbn rfl rfl rfl) ?_ | refine Zab.go (Za0 rfl rfl rfl) ?_ | refine Zab.go (Za7 rfl rfl rfl) ?_ | refine Zab.go (Zbc Try.underlying4 rfl rfl rfl) ?_ | refine Zab.go (Za9 Try.underlying4 rfl rfl rfl) ?_ | refine Zab.go (Zba Try.underlying4 rfl rfl) ?_ | refine Zab.go (Zbb Try.underlying4 rfl rfl rfl) ?_ | refine Zab.go (Za1 Try.underlying4 rfl rfl) ?_
    refine Zab.go (Za3 rfl rfl rfl rfl) (goMv rfl rfl (o_setT 32 rfl (decide_eq_true (by decide)) (ZaH rfl rfl rfl ?_)));refine goMv rfl rfl (ZaH rfl rfl rfl (goMv rfl rfl (ZaH rfl rfl rfl (Zab.go (Zbq (eqN_p [] [] (by decide) (by decide)) rfl rfl) (Zab.go (Za3 rfl rfl rfl rfl) (goAs rfl rfl (Zaf (Za8 ?_))))))));exact ⟨_, [], [], ZaT rfl, rfl, rfl, by first | rfl | (rw [decide_eq_true rfl]), rfl⟩
  · refine goMv rfl rfl ?_;rw [if_neg hout]
    first | refine Zab.go (Zbn rfl rfl rfl) ?_ | refine Zab.go (Za0 rfl rfl rfl) ?_ | refine Zab.go (Za7 rfl rfl rfl) ?_ | refine Zab.go (Zbc Try.underlying26 rfl rfl rfl) ?_ | refine Zab.go (Za9 Try.underlying26 rfl rfl rfl) ?_ | refine Zab.go (Zba Try.underlying26 rfl rfl) ?_ | refine Zab.go (Zbb Try.underlying26 rfl rfl rfl) ?_ | refine Zab.go (Za1 Try.underlying26 rfl rfl) ?_
    refine goMv rfl rfl (o_setT 25 rfl (rfl) (ZaH rfl rfl rfl (goMv rfl rfl (ZaH rfl rfl rfl (goMv rfl rfl (ZaH rfl rfl rfl (Zab.go (ZaC rfl (List.length_map ..) Try.underlying25 rfl) (ZaH rfl rfl rfl ?_))))))))
    first | refine Zab.go (st_gtr rfl rfl rfl) ?_ | refine Zab.go (ZbA rfl rfl rfl) ?_
    refine ZaH rfl rfl rfl ?_
    first | refine Zab.go (Zbn rfl rfl rfl) ?_ | refine Zab.go (Za0 rfl rfl rfl) ?_ | refine Zab.go (Za7 rfl rfl rfl) ?_ | refine Zab.go (Zbc Try.underlying4 rfl rfl rfl) ?_ | refine Zab.go (Za9 Try.underlying4 rfl rfl rfl) ?_ | refine Zab.go (Zba Try.underlying4 rfl rfl) ?_ | refine Zab.go (Zbb Try.underlying4 rfl rfl rfl) ?_ | refine Zab.go (Za1 Try.underlying4 rfl rfl) ?_
    refine Zab.go (Za3 rfl rfl rfl rfl) (goMv rfl rfl (o_setT 32 rfl (decide_eq_true (by have := List.length_pos_iff.2 hout; rw [decide_eq_true hout]; exact (decide_eq_true (by omega)).symm)) (ZaH rfl rfl rfl ?_)));refine goMv rfl rfl (ZaH rfl rfl rfl (goMv rfl rfl (ZaH rfl rfl rfl (Zab.go (Zbq (eqN_p out out (by omega) (by omega)) rfl rfl) (Zab.go (Za3 rfl rfl rfl rfl) (goAs rfl rfl (Zaf (Za8 ?_))))))));exact ⟨_, [], [], ZaT rfl, rfl, rfl, by first | rfl | (rw [decide_eq_true rfl]), rfl⟩
end Go.Proofs.Ytgdppeobgefogaa
namespace Go.Proofs.Ytgdppeobgefogaa
open Go.ChangeShapes Go.WideShapes Go.ChangeAt Go.RowKit

set_option maxRecDepth 100000 in
theorem sccCycle_lifted (os : Os) (started : os.Started) (H : Type) (enc : TypeId × Value → H) :
    ReturnsInHanded {} Try.checked os 3 .any (Rows.sccCycleSpec.pre6 enc Try.prog Try.f3 Rows.sccCycleRow.domain false) (Rows.sccCycleSpec.post enc Try.prog Try.f3 false true false false) := by
  refine returnsInHanded_of_change_sized (C := Try.checked) Try.own started (by kernel_rfl) Try.func3
    (ChangeSpec.witness6 (enc := enc) (C := Try.checked) false ⟨#[], #[.slice none 0 0], []⟩ 8 (by kernel_rfl) (by kernel_rfl) (by kernel_rfl) (by kernel_rfl)) ?_
  intro W base args ds gs before hval0 hW _ hwt _;have hW' := hW;obtain ⟨p, q, hA0, hV, rfl, _, _⟩ := hW;have hlt : ∀ x ∈ p ++ q, x.block < W.heap.size := fun x hx => hW'.lt x hx;have hA : DataW.TrodAll enc Try.prog W 0 (fun _ => true) true Try.f3.params.toList args.toList ds p := hA0;rw [Try.params3] at hA;obtain ⟨v0, d0, rfl, rfl, h0⟩ := trodAll_one hA;obtain ⟨rfl, rfl⟩ := trodVars_none hV;have hwz : ∀ n ∈ DataW.weightsEach Try.prog ([22] : List TypeId) ([d0]), n ≤ reachBytes := fun n hn => of_decide_eq_true (List.all_eq_true.1 hwt n (by rw [Try.params3]; exact hn));have hval : ∀ (j : Nat) t v, Try.f3.params[j]? = some t → (#[v0] : Array Value)[j]? = some v → Value.okWide Try.prog W .any base t v := hval0;rw [Try.params3] at hval;obtain ⟨n0, g0⟩ := h0;have hv0 : v0.oneCell' = true := by obtain ⟨_, _, _, e⟩ := okWide_slice Try.underlying22 (hval 0 22 v0 rfl rfl); rw [e]; rfl
  obtain ⟨a0, q0, _, r0⟩ := (openSl Try.underlying22 (by kernel_rfl) (by omega) (b := 24) (by kernel_rfl) (openSl Try.underlying25 (by kernel_rfl) (by omega) (b := 8) (by kernel_rfl) (openInt Try.underlying3))) _ _ _ g0 (fun x hx => hlt x (by simp [hx])) (fun n hn => hwz n (DataW.weights_mem_each (j := 0) (t := 22) rfl rfl n hn));refine (law_calls (lawS5_p a0 (by have := q0.2; omega) (fun x hx => by have := (q0.1 x hx).2; omega)) (vs := [v0]) rfl (fun i a v ha hv => ?_)).mono fun e W' ⟨he, hb⟩ => ?_
  · rcases i with _ | i
    · simp at ha hv; subst ha hv; exact RepC.arg1 rfl rfl hv0 r0
    · simp at ha
  subst he;exact ⟨_, rfl, law_post (tb := 4) Try.laidOut (by kernel_rfl) rfl rfl Try.underlying4 hW' ⟨rfl, rfl, rfl⟩ hb⟩

theorem sccCycle_holds : Rows.SccCycleSaid :=
  OpenClaim.holds_of_wide 3 Try.f3 rfl rfl rfl rfl rfl rfl rfl ⟨rfl, rfl, rfl, rfl, rfl⟩ rfl rfl rfl rfl rfl (by kernel_rfl) Try.func3 (by kernel_rfl)
    (of_decide_eq_true (by kernel_rfl)) (by unfold Func.isWrapper; first | (rw [if_pos (by decide +kernel)]; kernel_rfl) | (rw [if_neg (by decide +kernel)]; exact ⟨rfl, rfl⟩))
    (fun os started H enc _ => sccCycle_lifted os started H enc)
#print axioms sccCycle_holds

end Go.Proofs.Ytgdppeobgefogaa
