/- Proved here: codecNil_holds, the given statement Rows.CodecNilSaid: the law girolaw08.CodecNil returns true and does not panic, at every input that the statement speaks of; no condition beyond the statement. -/
/- 'girolaw08.CodecNil': for every input the law returns true, and each argument reads behind the call as it read before. No condition. -/
import Derived.Test.YtjbghmlofjkcfaaLawC8
import Derived.Test.YtjbghmlofjkcfaaCodO
import Derived.Test.YtjbghmlofjkcfaaLaw
namespace Go.Proofs.Ytjbghmlofjkcfaa
open Go.ChangeShapes Go.WideShapes Go.ChangeAt Go.RowKit

set_option maxRecDepth 100000 in
theorem codecNil_lifted (os : Os) (started : os.Started) (H : Type) (enc : TypeId × Value → H) :
    ReturnsInHanded {} Try.checked os 10 .any (Rows.codecNilSpec.pre6 enc Try.prog Try.f10 Rows.codecNilRow.domain false) (Rows.codecNilSpec.post enc Try.prog Try.f10 false true false false) := by
  refine returnsInHanded_of_change_sized (C := Try.checked) Try.own started (by kernel_rfl) Try.func10
    (ChangeSpec.witness6 (enc := enc) (C := Try.checked) false ⟨#[], #[.agg #[.int .i64 0, .int .u64 0, .int .i64 0, .bool false, .string ⟨#[]⟩, .slice none 0 0], .int .i64 0], []⟩ 8 (by kernel_rfl) (by kernel_rfl) (by kernel_rfl) (by kernel_rfl)) ?_
  intro W base args ds gs before hval0 hW _ hwt _
  have hW' := hW
  obtain ⟨p, q, hA0, hV, rfl, _, _⟩ := hW
  have hlt : ∀ x ∈ p ++ q, x.block < W.heap.size := fun x hx => hW'.lt x hx
  have hA : DataW.TrodAll enc Try.prog W 0 (fun _ => true) true Try.f10.params.toList args.toList ds p := hA0
  rw [Try.params10] at hA
  obtain ⟨v0, v1, d0, d1, p0, p1, rfl, rfl, rfl, h0, h1⟩ := trodAll_two hA
  obtain ⟨rfl, rfl⟩ := trodVars_none hV
  have hwz : ∀ n ∈ DataW.weightsEach Try.prog ([32, 3] : List TypeId) ([d0, d1]), n ≤ reachBytes := fun n hn => of_decide_eq_true (List.all_eq_true.1 hwt n (by rw [Try.params10]; exact hn))
  have hval : ∀ (j : Nat) t v, Try.f10.params[j]? = some t → (#[v0, v1] : Array Value)[j]? = some v → Value.okWide Try.prog W .any base t v := hval0
  rw [Try.params10] at hval
  obtain ⟨n0, g0⟩ := h0
  obtain ⟨cs0, rfl, _⟩ := okWide_struct Try.underlying32 (hval 0 32 v0 rfl rfl)
  obtain ⟨a0, q0, _, r0⟩ := (openV) _ _ _ g0 (fun x hx => hlt x (by simp [hx])) (fun n hn => hwz n (DataW.weights_mem_each (j := 0) (t := 32) rfl rfl n hn))
  obtain ⟨n1, g1⟩ := h1
  have hv1 : v1.oneCell' = true := by obtain ⟨_, e⟩ := okWide_int Try.underlying3 (hval 1 3 v1 rfl rfl); rw [e]; rfl
  obtain ⟨a1, q1, _, r1⟩ := (openInt Try.underlying3) _ _ _ g1 (fun x hx => hlt x (by simp [hx])) (fun n hn => hwz n (DataW.weights_mem_each (j := 1) (t := 3) rfl rfl n hn))
  refine (law_calls (nil_p a0 a1 q0 q1.1 q1.2) (vs := [.agg cs0, v1]) rfl (fun i a v ha hv => ?_)).mono fun e W' ⟨he, hb⟩ => ?_
  · rcases i with _ | _ | i
    · simp at ha hv; subst ha hv; exact RepC.argS rfl r0
    · simp at ha hv; subst ha hv; exact RepC.arg1 rfl rfl hv1 r1
    · simp at ha
  subst he
  exact ⟨_, rfl, law_post (tb := 4) Try.laidOut (by kernel_rfl) rfl rfl Try.underlying4 hW' ⟨rfl, rfl, rfl⟩ hb⟩

theorem codecNil_holds : Rows.CodecNilSaid :=
  OpenClaim.holds_of_wide 10 Try.f10 rfl rfl rfl rfl rfl rfl rfl ⟨rfl, rfl, rfl, rfl, rfl⟩ rfl rfl rfl rfl rfl (by kernel_rfl) Try.func10 (by kernel_rfl)
    (of_decide_eq_true (by kernel_rfl)) (by unfold Func.isWrapper; first | (rw [if_pos (by decide +kernel)]; kernel_rfl) | (rw [if_neg (by decide +kernel)]; exact ⟨rfl, rfl⟩))
    (fun os started H enc _ => codecNil_lifted os started H enc)
#print axioms codecNil_holds

end Go.Proofs.Ytjbghmlofjkcfaa
