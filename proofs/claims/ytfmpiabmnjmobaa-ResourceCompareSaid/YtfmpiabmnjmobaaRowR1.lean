/- Proved here: resourceCompare_holds, the given statement Rows.ResourceCompareSaid: the law girolaw28.ResourceCompare returns true and does not panic, at every input that the statement speaks of; no condition beyond the statement. -/
/- 'girolaw28.ResourceCompare': for every input the law returns true, and each argument reads behind the call as it read before. No condition. -/
import Derived.Test.YtfmpiabmnjmobaaLawR1
import Derived.Test.YtfmpiabmnjmobaaResX
import Derived.Test.YtfmpiabmnjmobaaLaw
namespace Go.Proofs.Ytfmpiabmnjmobaa
open Go.ChangeShapes Go.WideShapes Go.ChangeAt Go.RowKit

set_option maxRecDepth 100000 in
theorem resourceCompare_lifted (os : Os) (started : os.Started) (H : Type) (enc : TypeId × Value → H) :
    ReturnsInHanded {} Try.checked os 5 .any (Rows.resourceCompareSpec.pre6 enc Try.prog Try.f5 Rows.resourceCompareRow.domain false) (Rows.resourceCompareSpec.post enc Try.prog Try.f5 false true false false) := by
  refine returnsInHanded_of_change_sized (C := Try.checked) Try.own started (by kernel_rfl) Try.func5
    (ChangeSpec.witness6 (enc := enc) (C := Try.checked) false ⟨#[], #[.agg #[.int .i64 0, .string ⟨#[]⟩, .int .i64 0, .string ⟨#[]⟩, .string ⟨#[]⟩, .string ⟨#[]⟩], .agg #[.int .i64 0, .string ⟨#[]⟩, .int .i64 0, .string ⟨#[]⟩, .string ⟨#[]⟩, .string ⟨#[]⟩], .agg #[.int .i64 0, .int .i64 0], .agg #[.int .i64 0, .int .i64 0]], []⟩ 8 (by kernel_rfl) (by kernel_rfl) (by kernel_rfl) (by kernel_rfl)) ?_
  intro W base args ds gs before hval0 hW _ hwt _
  have hW' := hW
  obtain ⟨p, q, hA0, hV, rfl, _, _⟩ := hW
  have hlt : ∀ x ∈ p ++ q, x.block < W.heap.size := fun x hx => hW'.lt x hx
  have hA : DataW.TrodAll enc Try.prog W 0 (fun _ => true) true Try.f5.params.toList args.toList ds p := hA0
  rw [Try.params5] at hA
  obtain ⟨v0, v1, v2, v3, d0, d1, d2, d3, p0, p1, p2, p3, rfl, rfl, rfl, h0, h1, h2, h3⟩ := trodAll_four hA
  obtain ⟨rfl, rfl⟩ := trodVars_none hV
  have hwz : ∀ n ∈ DataW.weightsEach Try.prog ([48, 48, 49, 49] : List TypeId) ([d0, d1, d2, d3]), n ≤ reachBytes := fun n hn => of_decide_eq_true (List.all_eq_true.1 hwt n (by rw [Try.params5]; exact hn))
  have hval : ∀ (j : Nat) t v, Try.f5.params[j]? = some t → (#[v0, v1, v2, v3] : Array Value)[j]? = some v → Value.okWide Try.prog W .any base t v := hval0
  rw [Try.params5] at hval
  obtain ⟨n0, g0⟩ := h0
  obtain ⟨cs0, rfl, _⟩ := okWide_struct Try.underlying48 (hval 0 48 v0 rfl rfl)
  obtain ⟨a0, q0, _, r0⟩ := (oRsc) _ _ _ g0 (fun x hx => hlt x (by simp [hx])) (fun n hn => hwz n (DataW.weights_mem_each (j := 0) (t := 48) rfl rfl n hn))
  obtain ⟨n1, g1⟩ := h1
  obtain ⟨cs1, rfl, _⟩ := okWide_struct Try.underlying48 (hval 1 48 v1 rfl rfl)
  obtain ⟨a1, q1, _, r1⟩ := (oRsc) _ _ _ g1 (fun x hx => hlt x (by simp [hx])) (fun n hn => hwz n (DataW.weights_mem_each (j := 1) (t := 48) rfl rfl n hn))
  obtain ⟨n2, g2⟩ := h2
  obtain ⟨cs2, rfl, _⟩ := okWide_array' Try.underlying49 (hval 2 49 v2 rfl rfl)
  obtain ⟨a2, q2, _, r2⟩ := (oA2) _ _ _ g2 (fun x hx => hlt x (by simp [hx])) (fun n hn => hwz n (DataW.weights_mem_each (j := 2) (t := 49) rfl rfl n hn))
  obtain ⟨n3, g3⟩ := h3
  obtain ⟨cs3, rfl, _⟩ := okWide_array' Try.underlying49 (hval 3 49 v3 rfl rfl)
  obtain ⟨a3, q3, _, r3⟩ := (oA2) _ _ _ g3 (fun x hx => hlt x (by simp [hx])) (fun n hn => hwz n (DataW.weights_mem_each (j := 3) (t := 49) rfl rfl n hn))
  refine (law_calls (lawR1_p a0 a1 a2 a3) (vs := [.agg cs0, .agg cs1, .agg cs2, .agg cs3]) rfl (fun i a v ha hv => ?_)).mono fun e W' ⟨he, hb⟩ => ?_
  · rcases i with _ | _ | _ | _ | i
    · simp at ha hv; subst ha hv; exact RepC.argS rfl r0
    · simp at ha hv; subst ha hv; exact RepC.argS rfl r1
    · simp at ha hv; subst ha hv; exact RepC.argS rfl r2
    · simp at ha hv; subst ha hv; exact RepC.argS rfl r3
    · simp at ha
  subst he
  exact ⟨_, rfl, law_post (tb := 4) Try.laidOut (by kernel_rfl) rfl rfl Try.underlying4 hW' ⟨rfl, rfl, rfl⟩ hb⟩

theorem resourceCompare_holds : Rows.ResourceCompareSaid :=
  OpenClaim.holds_of_wide 5 Try.f5 rfl rfl rfl rfl rfl rfl rfl ⟨rfl, rfl, rfl, rfl, rfl⟩ rfl rfl rfl rfl rfl (by kernel_rfl) Try.func5 (by kernel_rfl)
    (of_decide_eq_true (by kernel_rfl)) (by unfold Func.isWrapper; first | (rw [if_pos (by decide +kernel)]; kernel_rfl) | (rw [if_neg (by decide +kernel)]; exact ⟨rfl, rfl⟩))
    (fun os started H enc _ => resourceCompare_lifted os started H enc)
#print axioms resourceCompare_holds

end Go.Proofs.Ytfmpiabmnjmobaa
