/- Proved here: resourceQueues_holds, the given statement Rows.ResourceQueuesSaid: the law girolaw28.ResourceQueues returns true and does not panic, at every input that the statement speaks of; no condition beyond the statement. -/
/- 'girolaw28.ResourceQueues': for every input the law returns true, and each argument reads behind the call as it read before. No condition. -/
import Derived.Test.YtfmpiabmnjmobaaLawR8
import Derived.Test.YtfmpiabmnjmobaaResX
import Derived.Test.YtfmpiabmnjmobaaLaw
namespace Go.Proofs.Ytfmpiabmnjmobaa
open Go.ChangeShapes Go.WideShapes Go.ChangeAt Go.RowKit

set_option maxRecDepth 100000 in
theorem resourceQueues_lifted (os : Os) (started : os.Started) (H : Type) (enc : TypeId × Value → H) :
    ReturnsInHanded {} Try.checked os 8 .any (Rows.resourceQueuesSpec.pre6 enc Try.prog Try.f8 Rows.resourceQueuesRow.domain false) (Rows.resourceQueuesSpec.post enc Try.prog Try.f8 false true false false) := by
  refine returnsInHanded_of_change_sized (C := Try.checked) Try.own started (by kernel_rfl) Try.func8
    (ChangeSpec.witness6 (enc := enc) (C := Try.checked) false ⟨#[], #[.agg #[.slice none 0 0, .slice none 0 0], .agg #[.int .i64 0, .string ⟨#[]⟩, .int .i64 0, .string ⟨#[]⟩, .string ⟨#[]⟩, .string ⟨#[]⟩], .int .i64 0], []⟩ 8 (by kernel_rfl) (by kernel_rfl) (by kernel_rfl) (by kernel_rfl)) ?_
  intro W base args ds gs before hval0 hW _ hwt _
  have hW' := hW
  obtain ⟨p, q, hA0, hV, rfl, _, _⟩ := hW
  have hlt : ∀ x ∈ p ++ q, x.block < W.heap.size := fun x hx => hW'.lt x hx
  have hA : DataW.TrodAll enc Try.prog W 0 (fun _ => true) true Try.f8.params.toList args.toList ds p := hA0
  rw [Try.params8] at hA
  obtain ⟨v0, v1, v2, d0, d1, d2, p0, p1, p2, rfl, rfl, rfl, h0, h1, h2⟩ := trodAll_three hA
  obtain ⟨rfl, rfl⟩ := trodVars_none hV
  have hwz : ∀ n ∈ DataW.weightsEach Try.prog ([67, 48, 3] : List TypeId) ([d0, d1, d2]), n ≤ reachBytes := fun n hn => of_decide_eq_true (List.all_eq_true.1 hwt n (by rw [Try.params8]; exact hn))
  have hval : ∀ (j : Nat) t v, Try.f8.params[j]? = some t → (#[v0, v1, v2] : Array Value)[j]? = some v → Value.okWide Try.prog W .any base t v := hval0
  rw [Try.params8] at hval
  obtain ⟨n0, g0⟩ := h0
  obtain ⟨cs0, rfl, _⟩ := okWide_struct Try.underlying67 (hval 0 67 v0 rfl rfl)
  obtain ⟨a0, q0, _, r0⟩ := (oPrb) _ _ _ g0 (fun x hx => hlt x (by simp [hx])) (fun n hn => hwz n (DataW.weights_mem_each (j := 0) (t := 67) rfl rfl n hn))
  obtain ⟨n1, g1⟩ := h1
  obtain ⟨cs1, rfl, _⟩ := okWide_struct Try.underlying48 (hval 1 48 v1 rfl rfl)
  obtain ⟨a1, q1, _, r1⟩ := (oRsc) _ _ _ g1 (fun x hx => hlt x (by simp [hx])) (fun n hn => hwz n (DataW.weights_mem_each (j := 1) (t := 48) rfl rfl n hn))
  obtain ⟨n2, g2⟩ := h2
  have hv2 : v2.oneCell' = true := by obtain ⟨_, e⟩ := okWide_int Try.underlying3 (hval 2 3 v2 rfl rfl); rw [e]; rfl
  obtain ⟨a2, q2, _, r2⟩ := (openInt Try.underlying3) _ _ _ g2 (fun x hx => hlt x (by simp [hx])) (fun n hn => hwz n (DataW.weights_mem_each (j := 2) (t := 3) rfl rfl n hn))
  refine (law_calls (lawR8_p a0 a1 a2) (vs := [.agg cs0, .agg cs1, v2]) rfl (fun i a v ha hv => ?_)).mono fun e W' ⟨he, hb⟩ => ?_
  · rcases i with _ | _ | _ | i
    · simp at ha hv; subst ha hv; exact RepC.argS rfl r0
    · simp at ha hv; subst ha hv; exact RepC.argS rfl r1
    · simp at ha hv; subst ha hv; exact RepC.arg1 rfl rfl hv2 r2
    · simp at ha
  subst he
  exact ⟨_, rfl, law_post (tb := 4) Try.laidOut (by kernel_rfl) rfl rfl Try.underlying4 hW' ⟨rfl, rfl, rfl⟩ hb⟩

theorem resourceQueues_holds : Rows.ResourceQueuesSaid :=
  OpenClaim.holds_of_wide 8 Try.f8 rfl rfl rfl rfl rfl rfl rfl ⟨rfl, rfl, rfl, rfl, rfl⟩ rfl rfl rfl rfl rfl (by kernel_rfl) Try.func8 (by kernel_rfl)
    (of_decide_eq_true (by kernel_rfl)) (by unfold Func.isWrapper; first | (rw [if_pos (by decide +kernel)]; kernel_rfl) | (rw [if_neg (by decide +kernel)]; exact ⟨rfl, rfl⟩))
    (fun os started H enc _ => resourceQueues_lifted os started H enc)
#print axioms resourceQueues_holds

end Go.Proofs.Ytfmpiabmnjmobaa
