/- 'girolaw09.RecordCorruption': for every input the law returns true, and each argument reads behind the call as it read before. No condition. -/
import Derived.Test.YtnflcmpdaoobcaaLaw7
import Derived.Test.YtnflcmpdaoobcaaOpen
namespace Go.Proofs.Ytnflcmpdaoobcaa
open Go.ChangeShapes Go.WideShapes Go.ChangeAt Go.RowKit

set_option maxRecDepth 100000 in
theorem recordCorruption_lifted (os : Os) (started : os.Started) (H : Type) (enc : TypeId × Value → H) :
    ReturnsInHanded {} Try.checked os 9 .any (Rows.recordCorruptionSpec.pre6 enc Try.prog Try.f9 Rows.recordCorruptionRow.domain false) (Rows.recordCorruptionSpec.post enc Try.prog Try.f9 false true false false) := by
  refine returnsInHanded_of_change (C := Try.checked) Try.own started (by kernel_rfl) Try.func9
    (ChangeSpec.witness6 (enc := enc) (C := Try.checked) false ⟨#[], #[.slice none 0 0, .int .u8 0, .int .u8 0, .int .u8 0], []⟩ 8 (by kernel_rfl) (by kernel_rfl) (by kernel_rfl) (by kernel_rfl)) ?_
  intro W base args ds gs before hval0 hW _ _
  have hW' := hW
  obtain ⟨p, q, hA0, hV, rfl, _, _⟩ := hW
  have hlt : ∀ x ∈ p ++ q, x.block < W.heap.size := fun x hx => hW'.lt x hx
  have hA : DataW.TrodAll enc Try.prog W 0 (fun _ => true) true Try.f9.params.toList args.toList ds p := hA0
  rw [Try.params9] at hA
  obtain ⟨v0, v1, v2, v3, d0, d1, d2, d3, p0, p1, p2, p3, rfl, rfl, rfl, h0, h1, h2, h3⟩ := trodAll_four hA
  obtain ⟨rfl, rfl⟩ := trodVars_none hV
  have hval : ∀ (j : Nat) t v, Try.f9.params[j]? = some t → (#[v0, v1, v2, v3] : Array Value)[j]? = some v → Value.okWide Try.prog W .any base t v := hval0
  rw [Try.params9] at hval
  obtain ⟨n0, g0⟩ := h0
  obtain ⟨_, _, _, rfl⟩ := okWide_slice Try.underlying29 (hval 0 29 v0 rfl rfl)
  obtain ⟨A0, us0, l0, c0, e0, hc0, hm0, hr0, hs0, hi0⟩ := open_rows (B := W.heap.size) Try.underlying29 Try.underlying22 Try.underlying5 (by kernel_rfl) (by kernel_rfl) g0 (fun x hx => hlt x (by simp [hx]))
  obtain ⟨z1, rfl, rfl, rfl, wf1⟩ := open_int Try.underlying5 (hval 1 5 v1 rfl rfl) h1
  obtain ⟨z2, rfl, rfl, rfl, wf2⟩ := open_int Try.underlying5 (hval 2 5 v2 rfl rfl) h2
  obtain ⟨z3, rfl, rfl, rfl, wf3⟩ := open_int Try.underlying5 (hval 3 5 v3 rfl rfl) h3
  simp only [Value.cells, Array.toList, List.cons.injEq, and_true] at e0
  rw [e0] at hW' ⊢
  unfold maxLen at hm0 hi0
  refine (corr_at l0 us0 A0 c0 z1 z2 z3 wf1 wf2 wf3 W hr0 hs0 hi0 (by omega)).mono fun e W' ⟨he, hb⟩ => ?_
  subst he
  exact ⟨_, rfl, law_post (tb := 4) Try.laidOut (by kernel_rfl) rfl rfl Try.underlying4 hW' ⟨rfl, rfl, rfl⟩ hb⟩

theorem recordCorruption_holds : Rows.RecordCorruptionSaid :=
  OpenClaim.holds_of_wide 9 Try.f9 rfl rfl rfl rfl rfl rfl rfl ⟨rfl, rfl, rfl, rfl, rfl⟩ rfl rfl rfl rfl rfl (by kernel_rfl) Try.func9 (by kernel_rfl)
    (of_decide_eq_true (by kernel_rfl)) (by unfold Func.isWrapper; first | (rw [if_pos (by decide +kernel)]; kernel_rfl) | (rw [if_neg (by decide +kernel)]; exact ⟨rfl, rfl⟩))
    (fun os started H enc _ => recordCorruption_lifted os started H enc)
#print axioms recordCorruption_holds

end Go.Proofs.Ytnflcmpdaoobcaa
