/- 'girolaw09.RecordChecksum': for every input the law returns true, and each argument reads behind the call as it read before. No condition. -/
import Derived.Test.YtnflcmpdaoobcaaLaw1
import Derived.Test.YtnflcmpdaoobcaaOpen
namespace Go.Proofs.Ytnflcmpdaoobcaa
open Go.ChangeShapes Go.WideShapes Go.ChangeAt Go.RowKit

set_option maxRecDepth 100000 in
theorem law1_lifted (os : Os) (started : os.Started) (H : Type) (enc : TypeId × Value → H) :
    ReturnsInHanded {} Try.checked os 3 .any (Rows.recordChecksumSpec.pre6 enc Try.prog Try.f3 Rows.recordChecksumRow.domain false) (Rows.recordChecksumSpec.post enc Try.prog Try.f3 false true false false) := by
  refine returnsInHanded_of_change (C := Try.checked) Try.own started (by kernel_rfl) Try.func3
    (ChangeSpec.witness6 (enc := enc) (C := Try.checked) false ⟨#[], #[.slice none 0 0, .slice none 0 0], []⟩ 8 (by kernel_rfl) (by kernel_rfl) (by kernel_rfl) (by kernel_rfl)) ?_
  intro W base args ds gs before hval0 hW _ _
  have hW' := hW
  obtain ⟨p, q, hA0, hV, rfl, _, _⟩ := hW
  have hlt : ∀ x ∈ p ++ q, x.block < W.heap.size := fun x hx => hW'.lt x hx
  have hA : DataW.TrodAll enc Try.prog W 0 (fun _ => true) true Try.f3.params.toList args.toList ds p := hA0
  rw [Try.params3] at hA
  obtain ⟨v0, v1, d0, d1, p0, p1, rfl, rfl, rfl, ⟨n0, h0⟩, ⟨n1, h1⟩⟩ := trodAll_two hA
  obtain ⟨rfl, rfl⟩ := trodVars_none hV
  have hval : ∀ (j : Nat) t v, Try.f3.params[j]? = some t → (#[v0, v1] : Array Value)[j]? = some v → Value.okWide Try.prog W .any base t v := hval0
  rw [Try.params3] at hval
  obtain ⟨_, _, _, rfl⟩ := okWide_slice Try.underlying22 (hval 0 22 v0 rfl rfl)
  obtain ⟨_, _, _, rfl⟩ := okWide_slice Try.underlying22 (hval 1 22 v1 rfl rfl)
  obtain ⟨A, l, c, e0, hc, hm, hr⟩ := open_bytes (B := W.heap.size) Try.underlying22 Try.underlying5 (by kernel_rfl) h0 (fun x hx => hlt x (by simp [hx]))
  obtain ⟨A', l', c', e1, hc', hm', hr'⟩ := open_bytes (B := W.heap.size) Try.underlying22 Try.underlying5 (by kernel_rfl) h1 (fun x hx => hlt x (by simp [hx]))
  simp only [Value.cells, Array.toList, List.cons.injEq, and_true] at e0 e1
  rw [e0, e1] at hW' ⊢
  unfold maxLen at hm hm'
  refine (law1_any l l' A A' c c' W hr hr' (by omega) (by omega) hc hc').mono fun e W' ⟨he, hb⟩ => ?_
  subst he
  exact ⟨_, rfl, law_post (tb := 4) Try.laidOut (by kernel_rfl) rfl rfl Try.underlying4 hW' ⟨rfl, rfl, rfl⟩ hb⟩

theorem checksum_holds : Rows.RecordChecksumSaid :=
  OpenClaim.holds_of_wide 3 Try.f3 rfl rfl rfl rfl rfl rfl rfl ⟨rfl, rfl, rfl, rfl, rfl⟩ rfl rfl rfl rfl rfl (by kernel_rfl) Try.func3 (by kernel_rfl)
    (of_decide_eq_true (by kernel_rfl)) (by unfold Func.isWrapper; first | (rw [if_pos (by decide +kernel)]; kernel_rfl) | (rw [if_neg (by decide +kernel)]; exact ⟨rfl, rfl⟩))
    (fun os started H enc _ => law1_lifted os started H enc)
#print axioms checksum_holds

end Go.Proofs.Ytnflcmpdaoobcaa
