/- Proved here: resourceSettleTwice_holds, the given statement Rows.ResourceSettleTwiceSaid: the law girolaw28.ResourceSettleTwice returns true and does not panic, at every input that the statement speaks of; no condition beyond the statement. -/
/- 'girolaw28.ResourceSettleTwice': for every input the law returns true, and each argument reads behind the call as it read before. No condition. -/
import Derived.Test.YtfmpiabmnjmobaaLawRA
import Derived.Test.YtfmpiabmnjmobaaResX
import Derived.Test.YtfmpiabmnjmobaaLaw
namespace Go.Proofs.Ytfmpiabmnjmobaa
open Go.ChangeShapes Go.WideShapes Go.ChangeAt Go.RowKit

set_option maxRecDepth 100000 in
theorem resourceSettleTwice_lifted (os : Os) (started : os.Started) (H : Type) (enc : TypeId × Value → H) :
    ReturnsInHanded {} Try.checked os 10 .any (Rows.resourceSettleTwiceSpec.pre6 enc Try.prog Try.f10 Rows.resourceSettleTwiceRow.domain false) (Rows.resourceSettleTwiceSpec.post enc Try.prog Try.f10 false true false false) := by
  refine returnsInHanded_of_change_sized (C := Try.checked) Try.own started (by kernel_rfl) Try.func10
    (ChangeSpec.witness6 (enc := enc) (C := Try.checked) false ⟨#[], #[.agg #[.slice none 0 0, .slice none 0 0], .slice none 0 0, .agg #[.slice none 0 0, .slice none 0 0]], []⟩ 8 (by kernel_rfl) (by kernel_rfl) (by kernel_rfl) (by kernel_rfl)) ?_
  intro W base args ds gs before hval0 hW _ hwt _
  have hW' := hW
  obtain ⟨p, q, hA0, hV, rfl, _, _⟩ := hW
  have hlt : ∀ x ∈ p ++ q, x.block < W.heap.size := fun x hx => hW'.lt x hx
  have hA : DataW.TrodAll enc Try.prog W 0 (fun _ => true) true Try.f10.params.toList args.toList ds p := hA0
  rw [Try.params10] at hA
  obtain ⟨v0, v1, v2, d0, d1, d2, p0, p1, p2, rfl, rfl, rfl, h0, h1, h2⟩ := trodAll_three hA
  obtain ⟨rfl, rfl⟩ := trodVars_none hV
  have hwz : ∀ n ∈ DataW.weightsEach Try.prog ([67, 100, 67] : List TypeId) ([d0, d1, d2]), n ≤ reachBytes := fun n hn => of_decide_eq_true (List.all_eq_true.1 hwt n (by rw [Try.params10]; exact hn))
  have hval : ∀ (j : Nat) t v, Try.f10.params[j]? = some t → (#[v0, v1, v2] : Array Value)[j]? = some v → Value.okWide Try.prog W .any base t v := hval0
  rw [Try.params10] at hval
  obtain ⟨n0, g0⟩ := h0
  obtain ⟨cs0, rfl, _⟩ := okWide_struct Try.underlying67 (hval 0 67 v0 rfl rfl)
  obtain ⟨a0, q0, _, r0⟩ := (oPrb) _ _ _ g0 (fun x hx => hlt x (by simp [hx])) (fun n hn => hwz n (DataW.weights_mem_each (j := 0) (t := 67) rfl rfl n hn))
  obtain ⟨n1, g1⟩ := h1
  have hv1 : v1.oneCell' = true := by obtain ⟨_, _, _, e⟩ := okWide_slice Try.underlying100 (hval 1 100 v1 rfl rfl); rw [e]; rfl
  obtain ⟨a1, q1, _, r1⟩ := (openSl Try.underlying100 (by kernel_rfl) (by omega) (b := 1) (by kernel_rfl) (openByte Try.underlying5)) _ _ _ g1 (fun x hx => hlt x (by simp [hx])) (fun n hn => hwz n (DataW.weights_mem_each (j := 1) (t := 100) rfl rfl n hn))
  obtain ⟨n2, g2⟩ := h2
  obtain ⟨cs2, rfl, _⟩ := okWide_struct Try.underlying67 (hval 2 67 v2 rfl rfl)
  obtain ⟨a2, q2, _, r2⟩ := (oPrb) _ _ _ g2 (fun x hx => hlt x (by simp [hx])) (fun n hn => hwz n (DataW.weights_mem_each (j := 2) (t := 67) rfl rfl n hn))
  refine (law_calls (lawRA_p a0 a1 a2) (vs := [.agg cs0, v1, .agg cs2]) rfl (fun i a v ha hv => ?_)).mono fun e W' ⟨he, hb⟩ => ?_
  · rcases i with _ | _ | _ | i
    · simp at ha hv; subst ha hv; exact RepC.argS rfl r0
    · simp at ha hv; subst ha hv; exact RepC.arg1 rfl rfl hv1 r1
    · simp at ha hv; subst ha hv; exact RepC.argS rfl r2
    · simp at ha
  subst he
  exact ⟨_, rfl, law_post (tb := 4) Try.laidOut (by kernel_rfl) rfl rfl Try.underlying4 hW' ⟨rfl, rfl, rfl⟩ hb⟩

theorem resourceSettleTwice_holds : Rows.ResourceSettleTwiceSaid :=
  OpenClaim.holds_of_wide 10 Try.f10 rfl rfl rfl rfl rfl rfl rfl ⟨rfl, rfl, rfl, rfl, rfl⟩ rfl rfl rfl rfl rfl (by kernel_rfl) Try.func10 (by kernel_rfl)
    (of_decide_eq_true (by kernel_rfl)) (by unfold Func.isWrapper; first | (rw [if_pos (by decide +kernel)]; kernel_rfl) | (rw [if_neg (by decide +kernel)]; exact ⟨rfl, rfl⟩))
    (fun os started H enc _ => resourceSettleTwice_lifted os started H enc)
#print axioms resourceSettleTwice_holds

end Go.Proofs.Ytfmpiabmnjmobaa

