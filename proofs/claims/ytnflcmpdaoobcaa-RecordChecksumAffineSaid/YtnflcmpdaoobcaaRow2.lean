/- Proved here: recordChecksumAffine_holds, the given statement Rows.RecordChecksumAffineSaid: the law girolaw09.RecordChecksumAffine returns true and does not panic, at every input that the statement speaks of; no condition beyond the statement. -/
/- 'girolaw09.RecordChecksumAffine': for every input the law returns true, and each argument reads behind the call as it read before. No condition. -/
import Derived.Test.YtnflcmpdaoobcaaLaw2p
import Derived.Test.YtnflcmpdaoobcaaLaw
namespace Go.Proofs.Ytnflcmpdaoobcaa
open Go.ChangeShapes Go.WideShapes Go.ChangeAt Go.RowKit

set_option maxRecDepth 100000 in
theorem recordChecksumAffine_lifted (os : Os) (started : os.Started) (H : Type) (enc : TypeId × Value → H) :
    ReturnsInHanded {} Try.checked os 4 .any (Rows.recordChecksumAffineSpec.pre6 enc Try.prog Try.f4 Rows.recordChecksumAffineRow.domain false) (Rows.recordChecksumAffineSpec.post enc Try.prog Try.f4 false true false false) := by
  refine returnsInHanded_of_change (C := Try.checked) Try.own started (by kernel_rfl) Try.func4
    (ChangeSpec.witness6 (enc := enc) (C := Try.checked) false ⟨#[], #[.slice none 0 0, .slice none 0 0, .slice none 0 0], []⟩ 8 (by kernel_rfl) (by kernel_rfl) (by kernel_rfl) (by kernel_rfl)) ?_
  intro W base args ds gs before hval0 hW _ _
  have hW' := hW
  obtain ⟨p, q, hA0, hV, rfl, _, _⟩ := hW
  have hlt : ∀ x ∈ p ++ q, x.block < W.heap.size := fun x hx => hW'.lt x hx
  have hA : DataW.TrodAll enc Try.prog W 0 (fun _ => true) true Try.f4.params.toList args.toList ds p := hA0
  rw [Try.params4] at hA
  obtain ⟨v0, v1, v2, d0, d1, d2, p0, p1, p2, rfl, rfl, rfl, h0, h1, h2⟩ := trodAll_three hA
  obtain ⟨rfl, rfl⟩ := trodVars_none hV
  have hval : ∀ (j : Nat) t v, Try.f4.params[j]? = some t → (#[v0, v1, v2] : Array Value)[j]? = some v → Value.okWide Try.prog W .any base t v := hval0
  rw [Try.params4] at hval
  obtain ⟨n0, g0⟩ := h0
  have hv0 : v0.oneCell' = true := by obtain ⟨_, _, _, e⟩ := okWide_slice Try.underlying22 (hval 0 22 v0 rfl rfl); rw [e]; rfl
  obtain ⟨a0, q0, _, r0⟩ := (openSl Try.underlying22 (by kernel_rfl) (by omega) (openByte Try.underlying5)) _ _ _ g0 (fun x hx => hlt x (by simp [hx]))
  obtain ⟨n1, g1⟩ := h1
  have hv1 : v1.oneCell' = true := by obtain ⟨_, _, _, e⟩ := okWide_slice Try.underlying22 (hval 1 22 v1 rfl rfl); rw [e]; rfl
  obtain ⟨a1, q1, _, r1⟩ := (openSl Try.underlying22 (by kernel_rfl) (by omega) (openByte Try.underlying5)) _ _ _ g1 (fun x hx => hlt x (by simp [hx]))
  obtain ⟨n2, g2⟩ := h2
  have hv2 : v2.oneCell' = true := by obtain ⟨_, _, _, e⟩ := okWide_slice Try.underlying22 (hval 2 22 v2 rfl rfl); rw [e]; rfl
  obtain ⟨a2, q2, _, r2⟩ := (openSl Try.underlying22 (by kernel_rfl) (by omega) (openByte Try.underlying5)) _ _ _ g2 (fun x hx => hlt x (by simp [hx]))
  refine (law_calls (law2_p a0 a1 a2 q0.2 q1.2 q2.2) (vs := [v0, v1, v2]) rfl (fun i a v ha hv => ?_)).mono fun e W' ⟨he, hb⟩ => ?_
  · rcases i with _ | _ | _ | i
    · simp at ha hv; subst ha hv; exact RepC.arg1 rfl rfl hv0 r0
    · simp at ha hv; subst ha hv; exact RepC.arg1 rfl rfl hv1 r1
    · simp at ha hv; subst ha hv; exact RepC.arg1 rfl rfl hv2 r2
    · simp at ha
  subst he
  exact ⟨_, rfl, law_post (tb := 4) Try.laidOut (by kernel_rfl) rfl rfl Try.underlying4 hW' ⟨rfl, rfl, rfl⟩ hb⟩

theorem recordChecksumAffine_holds : Rows.RecordChecksumAffineSaid :=
  OpenClaim.holds_of_wide 4 Try.f4 rfl rfl rfl rfl rfl rfl rfl ⟨rfl, rfl, rfl, rfl, rfl⟩ rfl rfl rfl rfl rfl (by kernel_rfl) Try.func4 (by kernel_rfl)
    (of_decide_eq_true (by kernel_rfl)) (by unfold Func.isWrapper; first | (rw [if_pos (by decide +kernel)]; kernel_rfl) | (rw [if_neg (by decide +kernel)]; exact ⟨rfl, rfl⟩))
    (fun os started H enc _ => recordChecksumAffine_lifted os started H enc)
#print axioms recordChecksumAffine_holds

end Go.Proofs.Ytnflcmpdaoobcaa
