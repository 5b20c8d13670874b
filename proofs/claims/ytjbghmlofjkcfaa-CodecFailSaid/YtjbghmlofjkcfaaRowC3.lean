/- Proved here: codecFail_holds, the given statement Rows.CodecFailSaid: the law girolaw08.CodecFail returns true and does not panic, at every input that the statement speaks of; no condition beyond the statement. -/
/- 'girolaw08.CodecFail': for every input the law returns true, and each argument reads behind the call as it read before. No condition. -/
import Derived.Test.YtjbghmlofjkcfaaLawC3
import Derived.Test.YtjbghmlofjkcfaaLaw
namespace Go.Proofs.Ytjbghmlofjkcfaa
open Go.ChangeShapes Go.WideShapes Go.ChangeAt Go.RowKit

set_option maxRecDepth 100000 in
theorem codecFail_lifted (os : Os) (started : os.Started) (H : Type) (enc : TypeId × Value → H) :
    ReturnsInHanded {} Try.checked os 4 .any (Rows.codecFailSpec.pre6 enc Try.prog Try.f4 Rows.codecFailRow.domain false) (Rows.codecFailSpec.post enc Try.prog Try.f4 false true false false) := by
  refine returnsInHanded_of_change_sized (C := Try.checked) Try.own started (by kernel_rfl) Try.func4
    (ChangeSpec.witness6 (enc := enc) (C := Try.checked) false ⟨#[], #[.slice none 0 0, .int .i64 0, .int .i64 0, .int .u8 0], []⟩ 8 (by kernel_rfl) (by kernel_rfl) (by kernel_rfl) (by kernel_rfl)) ?_
  intro W base args ds gs before hval0 hW _ hwt _
  have hW' := hW
  obtain ⟨p, q, hA0, hV, rfl, _, _⟩ := hW
  have hlt : ∀ x ∈ p ++ q, x.block < W.heap.size := fun x hx => hW'.lt x hx
  have hA : DataW.TrodAll enc Try.prog W 0 (fun _ => true) true Try.f4.params.toList args.toList ds p := hA0
  rw [Try.params4] at hA
  obtain ⟨v0, v1, v2, v3, d0, d1, d2, d3, p0, p1, p2, p3, rfl, rfl, rfl, h0, h1, h2, h3⟩ := trodAll_four hA
  obtain ⟨rfl, rfl⟩ := trodVars_none hV
  have hwz : ∀ n ∈ DataW.weightsEach Try.prog ([27, 38, 38, 5] : List TypeId) ([d0, d1, d2, d3]), n ≤ reachBytes := fun n hn => of_decide_eq_true (List.all_eq_true.1 hwt n (by rw [Try.params4]; exact hn))
  have hval : ∀ (j : Nat) t v, Try.f4.params[j]? = some t → (#[v0, v1, v2, v3] : Array Value)[j]? = some v → Value.okWide Try.prog W .any base t v := hval0
  rw [Try.params4] at hval
  obtain ⟨n0, g0⟩ := h0
  have hv0 : v0.oneCell' = true := by obtain ⟨_, _, _, e⟩ := okWide_slice Try.underlying27 (hval 0 27 v0 rfl rfl); rw [e]; rfl
  obtain ⟨a0, q0, _, r0⟩ := (openSl Try.underlying27 (by kernel_rfl) (by omega) (b := 1) (by kernel_rfl) (openByte Try.underlying5)) _ _ _ g0 (fun x hx => hlt x (by simp [hx])) (fun n hn => hwz n (DataW.weights_mem_each (j := 0) (t := 27) rfl rfl n hn))
  obtain ⟨n1, g1⟩ := h1
  have hv1 : v1.oneCell' = true := by obtain ⟨_, e⟩ := okWide_int Try.underlying38 (hval 1 38 v1 rfl rfl); rw [e]; rfl
  obtain ⟨a1, q1, _, r1⟩ := (openInt Try.underlying38) _ _ _ g1 (fun x hx => hlt x (by simp [hx])) (fun n hn => hwz n (DataW.weights_mem_each (j := 1) (t := 38) rfl rfl n hn))
  obtain ⟨n2, g2⟩ := h2
  have hv2 : v2.oneCell' = true := by obtain ⟨_, e⟩ := okWide_int Try.underlying38 (hval 2 38 v2 rfl rfl); rw [e]; rfl
  obtain ⟨a2, q2, _, r2⟩ := (openInt Try.underlying38) _ _ _ g2 (fun x hx => hlt x (by simp [hx])) (fun n hn => hwz n (DataW.weights_mem_each (j := 2) (t := 38) rfl rfl n hn))
  obtain ⟨n3, g3⟩ := h3
  have hv3 : v3.oneCell' = true := by obtain ⟨_, e⟩ := okWide_int Try.underlying5 (hval 3 5 v3 rfl rfl); rw [e]; rfl
  obtain ⟨a3, q3, _, r3⟩ := (openInt Try.underlying5) _ _ _ g3 (fun x hx => hlt x (by simp [hx])) (fun n hn => hwz n (DataW.weights_mem_each (j := 3) (t := 5) rfl rfl n hn))
  refine (law_calls (fail_i a0 a1 a2 a3 (by omega) q3) (vs := [v0, v1, v2, v3]) rfl (fun i a v ha hv => ?_)).mono fun e W' ⟨he, hb⟩ => ?_
  · rcases i with _ | _ | _ | _ | i
    · simp at ha hv; subst ha hv; exact RepC.arg1 rfl rfl hv0 r0
    · simp at ha hv; subst ha hv; exact RepC.arg1 rfl rfl hv1 r1
    · simp at ha hv; subst ha hv; exact RepC.arg1 rfl rfl hv2 r2
    · simp at ha hv; subst ha hv; exact RepC.arg1 rfl rfl hv3 r3
    · simp at ha
  subst he
  exact ⟨_, rfl, law_post (tb := 4) Try.laidOut (by kernel_rfl) rfl rfl Try.underlying4 hW' ⟨rfl, rfl, rfl⟩ hb⟩

theorem codecFail_holds : Rows.CodecFailSaid :=
  OpenClaim.holds_of_wide 4 Try.f4 rfl rfl rfl rfl rfl rfl rfl ⟨rfl, rfl, rfl, rfl, rfl⟩ rfl rfl rfl rfl rfl (by kernel_rfl) Try.func4 (by kernel_rfl)
    (of_decide_eq_true (by kernel_rfl)) (by unfold Func.isWrapper; first | (rw [if_pos (by decide +kernel)]; kernel_rfl) | (rw [if_neg (by decide +kernel)]; exact ⟨rfl, rfl⟩))
    (fun os started H enc _ => codecFail_lifted os started H enc)
#print axioms codecFail_holds

end Go.Proofs.Ytjbghmlofjkcfaa
