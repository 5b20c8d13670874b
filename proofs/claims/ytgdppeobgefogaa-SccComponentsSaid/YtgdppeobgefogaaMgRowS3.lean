/- Proved here: sccComponents_holds, the given statement Rows.SccComponentsSaid: the law girolaw31.SccComponents returns true and does not panic, at every input that the statement speaks of; no condition beyond the statement. -/
/- 'girolaw31.SccComponents': for every input the law returns true, and each argument reads behind the call as it read before. No condition. -/
import Derived.Test.YtgdppeobgefogaaMg24
namespace Go.Proofs.Ytgdppeobgefogaa
open Go.RowKit
theorem comC_b {g : List (List Nat)} (hg : GT g) : (comC g).length ≤ 2000000 ∧ ∀ x ∈ comC g, x.length ≤ 2000000 := by
  have hn := hg.gb.n;have hc := cnt_le g hg;refine ⟨by unfold comC; rw [Zbk]; omega, fun x hx => ?_⟩;obtain ⟨c, _, rfl⟩ := List.mem_map.1 hx;have := outT_len (noC g) g.length c;omega
theorem cdG_b {g : List (List Nat)} (hg : GT g) : (cdG g).length ≤ 2000000 ∧ ∀ x ∈ cdG g, x.length ≤ 2000000 := by
  have hn := hg.gb.n;have hc := cnt_le g hg;refine ⟨by unfold cdG; rw [Zbk]; omega, fun x hx => ?_⟩;obtain ⟨c, _, rfl⟩ := List.mem_map.1 hx;have h1 := cptS_le (cdE g c);have h2 := cdE_len hg c;show (cptS (cdE g c)).length ≤ _;omega
set_option maxRecDepth 100000 in
theorem lawS3_p (g0 : List (List Int)) (hg : g0.length ≤ 140737488355328) (hl : ∀ l ∈ g0, l.length ≤ 140737488355328) : PCalls Try.prog 8 [.d (grI g0)] (boolD true) := by
  have hgt := smlG_gt g0;have hsm := small_p g0 hg hl
  obtain ⟨g, hge⟩ : ∃ g, smlG g0 = g := ⟨_, rfl⟩
  rw [hge] at hgt hsm;obtain ⟨b1, b2⟩ := comC_b hgt;obtain ⟨b3, b4⟩ := cdG_b hgt;refine Za8 Try.func8 rfl rfl Try.ntmps8 rfl rfl rfl fun F hF => (Zag (Zae (goAs rfl rfl (Zaf (Zag (Zag (Zae (Zab.go (Zbl (known_p) rfl rfl) ?_))))))))
  first | refine Zab.go (st_notP rfl rfl) ?_ | refine Zab.go (st_not rfl rfl) ?_
  refine Zaf (Zbv rfl (rfl) (Zay (Zag (Zae ?_))));refine goMv rfl rfl (Zab.go (Zbl (hsm) rfl rfl) (goAs rfl rfl (Zaf (Zag (Zae (goMv rfl rfl (Zab.go (Zbl (components_p g hgt) rfl rfl) (goMv rfl rfl ?_))))))))
  first | refine Zab.go (ZaT rfl rfl rfl) ?_ | refine Zab.go (ZaW rfl rfl rfl) ?_
  first | refine Zab.go (ZaT rfl rfl rfl) ?_ | refine Zab.go (ZaW rfl rfl rfl) ?_
  refine goAs rfl rfl (goAs rfl rfl (Zaf (Zag (Zae (goMv rfl rfl (Zab.go (Zbl (condense_p g hgt) rfl rfl) (goMv rfl rfl ?_)))))))
  first | refine Zab.go (ZaT rfl rfl rfl) ?_ | refine Zab.go (ZaW rfl rfl rfl) ?_
  first | refine Zab.go (ZaT rfl rfl rfl) ?_ | refine Zab.go (ZaW rfl rfl rfl) ?_
  refine goAs rfl rfl (goAs rfl rfl (Zaf (Zag (Zae (goMv rfl rfl ?_)))))
  first | refine Zab.go (Zbx rfl rfl rfl) ?_ | refine Zab.go (Zbd rfl rfl rfl) ?_ | refine Zab.go (Zbn rfl rfl rfl) ?_ | refine Zab.go (Zbs Try.underlying26 rfl rfl rfl) ?_ | refine Zab.go (Zbp Try.underlying26 rfl rfl rfl) ?_ | refine Zab.go (Zbq Try.underlying26 rfl rfl) ?_ | refine Zab.go (Zbr Try.underlying26 rfl rfl rfl) ?_ | refine Zab.go (Zbe Try.underlying26 rfl rfl) ?_
  refine goMv rfl rfl (o_setT 23 rfl (rfl) (ZaC rfl rfl rfl (goMv rfl rfl (ZaC rfl rfl rfl ?_))))
  first | refine Zab.go (Zbx rfl rfl rfl) ?_ | refine Zab.go (Zbd rfl rfl rfl) ?_ | refine Zab.go (Zbn rfl rfl rfl) ?_ | refine Zab.go (Zbs Try.underlying26 rfl rfl rfl) ?_ | refine Zab.go (Zbp Try.underlying26 rfl rfl rfl) ?_ | refine Zab.go (Zbq Try.underlying26 rfl rfl) ?_ | refine Zab.go (Zbr Try.underlying26 rfl rfl rfl) ?_ | refine Zab.go (Zbe Try.underlying26 rfl rfl) ?_
  refine Zab.go (ZaX rfl rfl rfl rfl) (goMv rfl rfl (o_setT 27 rfl (rfl) (ZaC rfl rfl rfl (goMv rfl rfl (ZaC rfl rfl rfl (goMv rfl rfl (ZaC rfl rfl rfl ?_)))))));refine Zab.go (Zbl (refcom_p g hgt) rfl rfl) (ZaC rfl rfl rfl (Zab.go (Zbl (same_p (comC g) (comC g) b1 b1 b2 b2) rfl rfl) (Zab.go (ZaX rfl rfl rfl rfl) (goMv rfl rfl (o_setT 33 rfl (decide_eq_true rfl) (ZaC rfl rfl rfl (goMv rfl rfl (ZaC rfl rfl rfl ?_))))))));refine goMv rfl rfl (ZaC rfl rfl rfl (Zab.go (Zbl (refcond_p g hgt) rfl rfl) (ZaC rfl rfl rfl (Zab.go (Zbl (same_p (cdG g) (cdG g) b3 b3 b4 b4) rfl rfl) (Zab.go (ZaX rfl rfl rfl rfl) (goAs rfl rfl (Zaf (Zbc ?_))))))));exact ⟨_, [], [], ZaY rfl, rfl, rfl, by first | rfl | (rw [decide_eq_true rfl]), rfl⟩
end Go.Proofs.Ytgdppeobgefogaa
namespace Go.Proofs.Ytgdppeobgefogaa
open Go.ChangeShapes Go.WideShapes Go.ChangeAt Go.RowKit

set_option maxRecDepth 100000 in
theorem sccComponents_lifted (os : Os) (started : os.Started) (H : Type) (enc : TypeId × Value → H) :
    ReturnsInHanded {} Try.checked os 8 .any (Rows.sccComponentsSpec.pre6 enc Try.prog Try.f8 Rows.sccComponentsRow.domain false) (Rows.sccComponentsSpec.post enc Try.prog Try.f8 false true false false) := by
  refine returnsInHanded_of_change_sized (C := Try.checked) Try.own started (by kernel_rfl) Try.func8
    (ChangeSpec.witness6 (enc := enc) (C := Try.checked) false ⟨#[], #[.slice none 0 0], []⟩ 8 (by kernel_rfl) (by kernel_rfl) (by kernel_rfl) (by kernel_rfl)) ?_
  intro W base args ds gs before hval0 hW _ hwt _;have hW' := hW;obtain ⟨p, q, hA0, hV, rfl, _, _⟩ := hW;have hlt : ∀ x ∈ p ++ q, x.block < W.heap.size := fun x hx => hW'.lt x hx;have hA : DataW.TrodAll enc Try.prog W 0 (fun _ => true) true Try.f8.params.toList args.toList ds p := hA0;rw [Try.params8] at hA;obtain ⟨v0, d0, rfl, rfl, h0⟩ := trodAll_one hA;obtain ⟨rfl, rfl⟩ := trodVars_none hV;have hwz : ∀ n ∈ DataW.weightsEach Try.prog ([22] : List TypeId) ([d0]), n ≤ reachBytes := fun n hn => of_decide_eq_true (List.all_eq_true.1 hwt n (by rw [Try.params8]; exact hn));have hval : ∀ (j : Nat) t v, Try.f8.params[j]? = some t → (#[v0] : Array Value)[j]? = some v → Value.okWide Try.prog W .any base t v := hval0;rw [Try.params8] at hval;obtain ⟨n0, g0⟩ := h0;have hv0 : v0.oneCell' = true := by obtain ⟨_, _, _, e⟩ := okWide_slice Try.underlying22 (hval 0 22 v0 rfl rfl); rw [e]; rfl
  obtain ⟨a0, q0, _, r0⟩ := (openSl Try.underlying22 (by kernel_rfl) (by omega) (b := 24) (by kernel_rfl) (openSl Try.underlying25 (by kernel_rfl) (by omega) (b := 8) (by kernel_rfl) (openInt Try.underlying3))) _ _ _ g0 (fun x hx => hlt x (by simp [hx])) (fun n hn => hwz n (DataW.weights_mem_each (j := 0) (t := 22) rfl rfl n hn));refine (law_calls (lawS3_p a0 (by have := q0.2; omega) (fun x hx => by have := (q0.1 x hx).2; omega)) (vs := [v0]) rfl (fun i a v ha hv => ?_)).mono fun e W' ⟨he, hb⟩ => ?_
  · rcases i with _ | i
    · simp at ha hv; subst ha hv; exact RepC.arg1 rfl rfl hv0 r0
    · simp at ha
  subst he;exact ⟨_, rfl, law_post (tb := 4) Try.laidOut (by kernel_rfl) rfl rfl Try.underlying4 hW' ⟨rfl, rfl, rfl⟩ hb⟩

theorem sccComponents_holds : Rows.SccComponentsSaid :=
  OpenClaim.holds_of_wide 8 Try.f8 rfl rfl rfl rfl rfl rfl rfl ⟨rfl, rfl, rfl, rfl, rfl⟩ rfl rfl rfl rfl rfl (by kernel_rfl) Try.func8 (by kernel_rfl)
    (of_decide_eq_true (by kernel_rfl)) (by unfold Func.isWrapper; first | (rw [if_pos (by decide +kernel)]; kernel_rfl) | (rw [if_neg (by decide +kernel)]; exact ⟨rfl, rfl⟩))
    (fun os started H enc _ => sccComponents_lifted os started H enc)
#print axioms sccComponents_holds

end Go.Proofs.Ytgdppeobgefogaa
