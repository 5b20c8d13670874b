/- Proved here: sccLongPaths_holds, the given statement Rows.SccLongPathsSaid: the law girolaw31.SccLongPaths returns true and does not panic, at every input that the statement speaks of; no condition beyond the statement. -/
/- 'girolaw31.SccLongPaths': for every input the law returns true, and each argument reads behind the call as it read before. No condition. -/
import Derived.Test.YtgdppeobgefogaaMg20
namespace Go.Proofs.Ytgdppeobgefogaa
open Go.RowKit
set_option maxRecDepth 100000 in
theorem longT_p (a : Nat) (ha : a < 65536) : PCalls Try.prog 6 [.d (u16V a), .d (boolD true)] (boolD true) := by
  refine Zbb Try.func6 rfl rfl Try.ntmps6 rfl rfl rfl fun F hF => (Zag (Zae (goAs rfl rfl (Zaf (Zag (Zag (Zae (Zab.go (Zbu (known_p) rfl rfl) ?_))))))))
  first | refine Zab.go (st_notP rfl rfl) ?_ | refine Zab.go (st_not rfl rfl) ?_
  refine Zaf (Zbr rfl (rfl) (ZaD ?_));refine Zag (Zae (goMv rfl rfl (Zab.go (st_conv rfl Try.underlying44 Try.underlying3 (IntWalk.i64_in _ (by omega)) rfl) (Zab.go (st_rem rfl rfl (by omega) ((show Int.tmod (a : Int) 20000 = ((a % 20000 : Nat) : Int) from rfl)) rfl) (Zab.go (ZaK rfl rfl (IntWalk.i64_in _ (by omega)) rfl) (goAs rfl rfl (Zaf (Zag ?_))))))));have hm20 : 1 + a % 20000 ≤ 20000 := by omega
  have hm0 : 0 < 1 + a % 20000 := by omega
  refine a_as 5 (.d (natD (1 + a % 20000))) rfl (eqv (congrArg intD (by omega))) ?_
  obtain ⟨m, hm⟩ : ∃ m, 1 + a % 20000 = m := ⟨_, rfl⟩
  rw [hm] at hm20 hm0 ⊢;refine Zae (goMv rfl rfl (Zax.go (ZbO 0 sl22 rfl rfl rfl (by omega) zd25 rfl rfl rfl rfl) (goAs rfl rfl ?_)));refine Zaf (Zag (Zag (a_weakRow 0 0 (rowG m 0) rfl (by rw [rowG_len, List.length_replicate]) (nil_rowG m) ⟨one_nil _, one_rowG _ _⟩ rfl (Zae (goAs rfl rfl (Zaf (ZaC (Za5 (α := Nat) (fun k => ⟨148, [(0, .d (u16V a)), (1, .d (boolD true)), (5, (.d (natD m))), (6, (.own 0 0 m)), (7, (.d (natD k)))], [(0, [.rowD 25 1 (rowG m k)])]⟩) (fun k => k + 1 ≤ m) (fun k => m - k) (0) (hm0) (ZaA hF [0] rfl rfl ⟨rfl, rfl, rfl, rfl, rfl, trivial⟩) ?_))))))));intro k hk;refine Zag (Zag (Zae (goMv rfl rfl (Zab.go (ZaK rfl rfl (IntWalk.i64_in _ (by omega)) rfl) (goMv rfl rfl ?_)))))
  first | refine Zab.go (Zba rfl rfl rfl) ?_ | refine Zab.go (ZaX rfl rfl rfl) ?_
  refine Zaf ?_
  first | refine ZaT rfl (fun h26 => ?_) (fun h26 => ?_) | refine ZaF rfl (fun h26 => ?_) (fun h26 => ?_)
  · refine ZaD (Zag (ZaC ?_));have hkm : k < m := by omega
    refine Zae (goMv rfl rfl (goMv rfl rfl (goMv rfl rfl (Zab.go (ZaK rfl rfl (IntWalk.i64_in _ (by omega)) rfl) (o_as 32 (.d (natD (k + 1))) rfl (eqv (congrArg intD (by omega))) (Zax.go (ZaN 21 sl25 rfl rfl rfl rfl rfl rfl rfl rfl) (ZbL (emb := natD) 33 21 [k + 1] rfl rfl rfl rfl rfl rfl rfl ?_)))))))
    first | refine Zab.go (Zam (k) rfl rfl (rfl) (hkm) Try.underlying22 rfl sz25 rfl) ?_ | refine Zab.go (Zal (k) rfl rfl (rfl) (hkm) rfl Try.underlying22 sz25 rfl) ?_
    refine Zax.go (Zbe rfl rfl rfl rfl rfl (by rw [rowG_len]; exact hkm) rowG_set rfl sz25) (Zaf (Zae (goMv rfl rfl (Zab.go (ZaK rfl rfl (IntWalk.i64_in _ (by omega)) rfl) (goAs rfl rfl (Zaf ?_))))));exact ⟨k + 1, by omega, by omega, ZaA hF [0] rfl (rfl) ⟨rfl, rfl, rfl, rfl, rfl, trivial⟩⟩
  · refine ZaL (Zag (Zag ?_));have hke : k + 1 = m := by omega
    refine Zae (goMv rfl rfl ?_);refine Zaf (a_true rfl (rfl) (Zae (goMv rfl rfl (goMv rfl rfl (Zab.go (Za9 rfl rfl (IntWalk.i64_in _ (by omega)) rfl) (o_as 38 (.d (natD (m - 1))) rfl (eqv (congrArg intD (by omega))) (Zax.go (ZaN 22 sl25 rfl rfl rfl rfl rfl rfl rfl rfl) (ZbL (emb := natD) 39 22 [0] rfl rfl rfl rfl rfl rfl rfl ?_))))))))
    first | refine Zab.go (Zam (m - 1) rfl rfl (rfl) ((show m - 1 < m by omega)) Try.underlying22 rfl sz25 rfl) ?_ | refine Zab.go (Zal (m - 1) rfl rfl (rfl) ((show m - 1 < m by omega)) rfl Try.underlying22 sz25 rfl) ?_
    refine Zax.go (Zbe rfl rfl rfl rfl rfl (by rw [rowG_len]; omega) (rowG_ring hke) rfl sz25) (Zaf (Zag (Zbx (emb := natsD) 6 0 (gP m true) rfl rfl rfl (Zbq _ _).symm rfl rfl rfl ?_)));have hto := topo_p (gP m true) (gP_gt hm20);rw [ordT hm0, if_neg (by rw [Zbq]; simp; omega)] at hto;have hco := components_p (gP m true) (gP_gt hm20);rw [comT hm0 hm20] at hco;refine Zae (goMv rfl rfl (Zab.go (Zbu (hco) rfl rfl) (goMv rfl rfl ?_)))
    first | refine Zab.go (ZaI rfl rfl rfl) ?_ | refine Zab.go (ZaM rfl rfl rfl) ?_
    first | refine Zab.go (ZaI rfl rfl rfl) ?_ | refine Zab.go (ZaM rfl rfl rfl) ?_
    refine goAs rfl rfl (goAs rfl rfl (Zaf (Zag (Zae (goMv rfl rfl (Zab.go (Zbu (hto) rfl rfl) (goMv rfl rfl ?_)))))))
    first | refine Zab.go (ZaI rfl rfl rfl) ?_ | refine Zab.go (ZaM rfl rfl rfl) ?_
    first | refine Zab.go (ZaI rfl rfl rfl) ?_ | refine Zab.go (ZaM rfl rfl rfl) ?_
    refine goAs rfl rfl (goAs rfl rfl (Zaf (Zag (Zae (goMv rfl rfl (Zab.go (Zbu (cycT_p hm0 hm20) rfl rfl) (goMv rfl rfl ?_)))))))
    first | refine Zab.go (ZaI rfl rfl rfl) ?_ | refine Zab.go (ZaM rfl rfl rfl) ?_
    first | refine Zab.go (ZaI rfl rfl rfl) ?_ | refine Zab.go (ZaM rfl rfl rfl) ?_
    first | refine Zab.go (ZaI rfl rfl rfl) ?_ | refine Zab.go (ZaM rfl rfl rfl) ?_
    refine goAs rfl rfl (goAs rfl rfl (goAs rfl rfl (Zaf (Zag (Zag (Zae (goMv rfl rfl ?_)))))))
    first | refine Zab.go (st_neq rfl rfl rfl) ?_ | refine Zab.go (ZbE rfl rfl rfl) ?_ | refine Zab.go (ZbF rfl rfl rfl) ?_ | refine Zab.go (ZbJ Try.underlying26 rfl rfl rfl) ?_ | refine Zab.go (ZbH Try.underlying26 rfl rfl rfl) ?_ | refine Zab.go (st_neqN Try.underlying26 rfl rfl) ?_ | refine Zab.go (ZbI Try.underlying26 rfl rfl rfl) ?_ | refine Zab.go (st_neqFN Try.underlying26 rfl rfl) ?_
    refine goMv rfl rfl (o_setF 59 rfl (decide_eq_false (by decide)) (ZaB rfl rfl rfl (goMv rfl rfl (ZaB rfl rfl rfl ?_))))
    first | refine Zab.go (st_neq rfl rfl rfl) ?_ | refine Zab.go (ZbE rfl rfl rfl) ?_ | refine Zab.go (ZbF rfl rfl rfl) ?_ | refine Zab.go (ZbJ Try.underlying26 rfl rfl rfl) ?_ | refine Zab.go (ZbH Try.underlying26 rfl rfl rfl) ?_ | refine Zab.go (st_neqN Try.underlying26 rfl rfl) ?_ | refine Zab.go (ZbI Try.underlying26 rfl rfl rfl) ?_ | refine Zab.go (st_neqFN Try.underlying26 rfl rfl) ?_
    refine Zab.go (Za8 rfl rfl rfl rfl) (goMv rfl rfl (o_setF 63 rfl (decide_eq_false (by decide)) (ZaB rfl rfl rfl (goMv rfl rfl (ZaB rfl rfl rfl (goMv rfl rfl (ZaB rfl rfl rfl ?_)))))))
    first | refine Zab.go (st_neq rfl rfl rfl) ?_ | refine Zab.go (ZbE rfl rfl rfl) ?_ | refine Zab.go (ZbF rfl rfl rfl) ?_ | refine Zab.go (ZbJ Try.underlying4 rfl rfl rfl) ?_ | refine Zab.go (ZbH Try.underlying4 rfl rfl rfl) ?_ | refine Zab.go (st_neqN Try.underlying4 rfl rfl) ?_ | refine Zab.go (ZbI Try.underlying4 rfl rfl rfl) ?_ | refine Zab.go (st_neqFN Try.underlying4 rfl rfl) ?_
    refine Zab.go (Za8 rfl rfl rfl rfl) (Zaf (Zbr rfl (decide_eq_false (by decide)) (ZaD (Zag ?_))));refine Zag (Zae (goMv rfl rfl (Zaf (a_true rfl (rfl) (Zag (Zae (goMv rfl rfl (Zab.go (ZaE rfl rfl Try.underlying22 rfl) ?_))))))))
    first | refine Zab.go (Zbf rfl rfl rfl) ?_ | refine Zab.go (ZaU rfl rfl rfl) ?_ | refine Zab.go (Za0 rfl rfl rfl) ?_ | refine Zab.go (Za4 Try.underlying3 rfl rfl rfl) ?_ | refine Zab.go (Za1 Try.underlying3 rfl rfl rfl) ?_ | refine Zab.go (Za2 Try.underlying3 rfl rfl) ?_ | refine Zab.go (Za3 Try.underlying3 rfl rfl rfl) ?_ | refine Zab.go (ZaV Try.underlying3 rfl rfl) ?_
    refine goMv rfl rfl (o_setT 72 rfl (decide_eq_true rfl) (ZaB rfl rfl rfl (goMv rfl rfl (ZaB rfl rfl rfl ?_))))
    first | refine Zab.go (Zam (0) rfl rfl (rfl) (rfl) Try.underlying22 rfl sz25 rfl) ?_ | refine Zab.go (Zal (0) rfl rfl (rfl) (rfl) rfl Try.underlying22 sz25 rfl) ?_
    refine ZaB rfl rfl rfl ?_
    first | refine Zab.go (Zai rfl rfl on25 rfl) ?_ | refine Zab.go (Zak rfl rfl rfl on25 rfl) ?_ | refine Zab.go (Zaj rfl rfl (rfl) rfl on25 rfl) ?_
    refine ZaB rfl rfl rfl (Zab.go (ZaE rfl ((List.length_map ..).trans (List.length_range ..)) Try.underlying25 rfl) (ZaB rfl rfl rfl (goMv rfl rfl (ZaB rfl rfl rfl ?_))))
    first | refine Zab.go (Zbf rfl rfl rfl) ?_ | refine Zab.go (ZaU rfl rfl rfl) ?_ | refine Zab.go (Za0 rfl rfl rfl) ?_ | refine Zab.go (Za4 Try.underlying3 rfl rfl rfl) ?_ | refine Zab.go (Za1 Try.underlying3 rfl rfl rfl) ?_ | refine Zab.go (Za2 Try.underlying3 rfl rfl) ?_ | refine Zab.go (Za3 Try.underlying3 rfl rfl rfl) ?_ | refine Zab.go (ZaV Try.underlying3 rfl rfl) ?_
    refine Zab.go (ZaZ rfl rfl rfl rfl) (goMv rfl rfl (o_setT 80 rfl (decide_eq_true rfl) (ZaB rfl rfl rfl (goMv rfl rfl (ZaB rfl rfl rfl ?_)))))
    first | refine Zab.go (Zbf rfl rfl rfl) ?_ | refine Zab.go (ZaU rfl rfl rfl) ?_ | refine Zab.go (Za0 rfl rfl rfl) ?_ | refine Zab.go (Za4 Try.underlying26 rfl rfl rfl) ?_ | refine Zab.go (Za1 Try.underlying26 rfl rfl rfl) ?_ | refine Zab.go (Za2 Try.underlying26 rfl rfl) ?_ | refine Zab.go (Za3 Try.underlying26 rfl rfl rfl) ?_ | refine Zab.go (ZaV Try.underlying26 rfl rfl) ?_
    refine Zab.go (ZaZ rfl rfl rfl rfl) ?_;refine goMv rfl rfl (o_setT 84 rfl (decide_eq_true (by decide)) (ZaB rfl rfl rfl (goMv rfl rfl (ZaB rfl rfl rfl (Zab.go (ZaE rfl ((List.length_map ..).trans (List.length_range ..)) Try.underlying25 rfl) (ZaB rfl rfl rfl (goMv rfl rfl (ZaB rfl rfl rfl ?_))))))))
    first | refine Zab.go (Zbf rfl rfl rfl) ?_ | refine Zab.go (ZaU rfl rfl rfl) ?_ | refine Zab.go (Za0 rfl rfl rfl) ?_ | refine Zab.go (Za4 Try.underlying3 rfl rfl rfl) ?_ | refine Zab.go (Za1 Try.underlying3 rfl rfl rfl) ?_ | refine Zab.go (Za2 Try.underlying3 rfl rfl) ?_ | refine Zab.go (Za3 Try.underlying3 rfl rfl rfl) ?_ | refine Zab.go (ZaV Try.underlying3 rfl rfl) ?_
    refine Zab.go (ZaZ rfl rfl rfl rfl) (goMv rfl rfl (o_setT 90 rfl (decide_eq_true rfl) (ZaB rfl rfl rfl (goMv rfl rfl (ZaB rfl rfl rfl ?_)))))
    first | refine Zab.go (Zam (0) rfl rfl (rfl) (getn (by rw [List.length_range]; exact hm0)) Try.underlying25 rfl sz3 rfl) ?_ | refine Zab.go (Zal (0) rfl rfl (rfl) (getn (by rw [List.length_range]; exact hm0)) rfl Try.underlying25 sz3 rfl) ?_
    refine ZaB rfl rfl rfl ?_
    first | refine Zab.go (Zai rfl rfl on3 rfl) ?_ | refine Zab.go (Zak rfl rfl rfl on3 rfl) ?_ | refine Zab.go (Zaj rfl rfl (rfl) rfl on3 rfl) ?_
    refine ZaB rfl rfl rfl ?_
    first | refine Zab.go (Zbf rfl rfl rfl) ?_ | refine Zab.go (ZaU rfl rfl rfl) ?_ | refine Zab.go (Za0 rfl rfl rfl) ?_ | refine Zab.go (Za4 Try.underlying3 rfl rfl rfl) ?_ | refine Zab.go (Za1 Try.underlying3 rfl rfl rfl) ?_ | refine Zab.go (Za2 Try.underlying3 rfl rfl) ?_ | refine Zab.go (Za3 Try.underlying3 rfl rfl rfl) ?_ | refine Zab.go (ZaV Try.underlying3 rfl rfl) ?_
    refine Zab.go (ZaZ rfl rfl rfl rfl) (goMv rfl rfl ?_);refine o_setT 96 rfl (decide_eq_true (by rw [nth_range hm0]; rfl)) (ZaB rfl rfl rfl (goMv rfl rfl (ZaB rfl rfl rfl (goMv rfl rfl (ZaB rfl rfl rfl (Zab.go (Za9 rfl rfl (IntWalk.i64_in _ (by omega)) rfl) (o_as 99 (.d (natD (m - 1))) rfl (eqv (congrArg intD (by omega))) (ZaB rfl rfl rfl ?_))))))))
    first | refine Zab.go (Zam (m - 1) rfl rfl (rfl) (getn (by rw [List.length_range]; omega)) Try.underlying25 rfl sz3 rfl) ?_ | refine Zab.go (Zal (m - 1) rfl rfl (rfl) (getn (by rw [List.length_range]; omega)) rfl Try.underlying25 sz3 rfl) ?_
    refine ZaB rfl rfl rfl ?_
    first | refine Zab.go (Zai rfl rfl on3 rfl) ?_ | refine Zab.go (Zak rfl rfl rfl on3 rfl) ?_ | refine Zab.go (Zaj rfl rfl (rfl) rfl on3 rfl) ?_
    refine ZaB rfl rfl rfl (goMv rfl rfl (ZaB rfl rfl rfl (Zab.go (Za9 rfl rfl (IntWalk.i64_in _ (by omega)) rfl) (o_as 103 (.d (natD (m - 1))) rfl (eqv (congrArg intD (by omega))) (ZaB rfl rfl rfl ?_)))))
    first | refine Zab.go (Zbf rfl rfl rfl) ?_ | refine Zab.go (ZaU rfl rfl rfl) ?_ | refine Zab.go (Za0 rfl rfl rfl) ?_ | refine Zab.go (Za4 Try.underlying3 rfl rfl rfl) ?_ | refine Zab.go (Za1 Try.underlying3 rfl rfl rfl) ?_ | refine Zab.go (Za2 Try.underlying3 rfl rfl) ?_ | refine Zab.go (Za3 Try.underlying3 rfl rfl rfl) ?_ | refine Zab.go (ZaV Try.underlying3 rfl rfl) ?_
    refine Zab.go (ZaZ rfl rfl rfl rfl) (goAs rfl rfl (Zaf (Zbj ?_)));exact ⟨_, [], [], ZaR rfl, rfl, rfl, by rw [nth_range (by omega), decide_eq_true rfl], rfl⟩
theorem lawS4_p (a : Nat) (ring : Bool) (ha : a < 65536) : PCalls Try.prog 6 [.d (u16V a), .d (boolD ring)] (boolD true) := by
  cases ring
  · exact longF_p a ha
  · exact longT_p a ha
end Go.Proofs.Ytgdppeobgefogaa
namespace Go.Proofs.Ytgdppeobgefogaa
open Go.ChangeShapes Go.WideShapes Go.ChangeAt Go.RowKit

set_option maxRecDepth 100000 in
theorem sccLongPaths_lifted (os : Os) (started : os.Started) (H : Type) (enc : TypeId × Value → H) :
    ReturnsInHanded {} Try.checked os 6 .any (Rows.sccLongPathsSpec.pre6 enc Try.prog Try.f6 Rows.sccLongPathsRow.domain false) (Rows.sccLongPathsSpec.post enc Try.prog Try.f6 false true false false) := by
  refine returnsInHanded_of_change_sized (C := Try.checked) Try.own started (by kernel_rfl) Try.func6
    (ChangeSpec.witness6 (enc := enc) (C := Try.checked) false ⟨#[], #[.int .u16 0, .bool false], []⟩ 8 (by kernel_rfl) (by kernel_rfl) (by kernel_rfl) (by kernel_rfl)) ?_
  intro W base args ds gs before hval0 hW _ hwt _;have hW' := hW;obtain ⟨p, q, hA0, hV, rfl, _, _⟩ := hW;have hlt : ∀ x ∈ p ++ q, x.block < W.heap.size := fun x hx => hW'.lt x hx;have hA : DataW.TrodAll enc Try.prog W 0 (fun _ => true) true Try.f6.params.toList args.toList ds p := hA0;rw [Try.params6] at hA;obtain ⟨v0, v1, d0, d1, p0, p1, rfl, rfl, rfl, h0, h1⟩ := trodAll_two hA;obtain ⟨rfl, rfl⟩ := trodVars_none hV;have hwz : ∀ n ∈ DataW.weightsEach Try.prog ([44, 4] : List TypeId) ([d0, d1]), n ≤ reachBytes := fun n hn => of_decide_eq_true (List.all_eq_true.1 hwt n (by rw [Try.params6]; exact hn));have hval : ∀ (j : Nat) t v, Try.f6.params[j]? = some t → (#[v0, v1] : Array Value)[j]? = some v → Value.okWide Try.prog W .any base t v := hval0;rw [Try.params6] at hval;obtain ⟨n0, g0⟩ := h0;have hv0 : v0.oneCell' = true := by obtain ⟨_, e⟩ := okWide_int Try.underlying44 (hval 0 44 v0 rfl rfl); rw [e]; rfl
  obtain ⟨a0, q0, _, r0⟩ := (openU16 Try.underlying44) _ _ _ g0 (fun x hx => hlt x (by simp [hx])) (fun n hn => hwz n (DataW.weights_mem_each (j := 0) (t := 44) rfl rfl n hn));obtain ⟨n1, g1⟩ := h1;have hv1 : v1.oneCell' = true := by obtain ⟨_, e⟩ := okWide_bool Try.underlying4 (hval 1 4 v1 rfl rfl); rw [e]; rfl
  obtain ⟨a1, q1, _, r1⟩ := (openBool Try.underlying4) _ _ _ g1 (fun x hx => hlt x (by simp [hx])) (fun n hn => hwz n (DataW.weights_mem_each (j := 1) (t := 4) rfl rfl n hn));refine (law_calls (lawS4_p a0 a1 q0) (vs := [v0, v1]) rfl (fun i a v ha hv => ?_)).mono fun e W' ⟨he, hb⟩ => ?_
  · rcases i with _ | _ | i
    · simp at ha hv; subst ha hv; exact RepC.arg1 rfl rfl hv0 r0
    · simp at ha hv; subst ha hv; exact RepC.arg1 rfl rfl hv1 r1
    · simp at ha
  subst he;exact ⟨_, rfl, law_post (tb := 4) Try.laidOut (by kernel_rfl) rfl rfl Try.underlying4 hW' ⟨rfl, rfl, rfl⟩ hb⟩

theorem sccLongPaths_holds : Rows.SccLongPathsSaid :=
  OpenClaim.holds_of_wide 6 Try.f6 rfl rfl rfl rfl rfl rfl rfl ⟨rfl, rfl, rfl, rfl, rfl⟩ rfl rfl rfl rfl rfl (by kernel_rfl) Try.func6 (by kernel_rfl)
    (of_decide_eq_true (by kernel_rfl)) (by unfold Func.isWrapper; first | (rw [if_pos (by decide +kernel)]; kernel_rfl) | (rw [if_neg (by decide +kernel)]; exact ⟨rfl, rfl⟩))
    (fun os started H enc _ => sccLongPaths_lifted os started H enc)
#print axioms sccLongPaths_holds

end Go.Proofs.Ytgdppeobgefogaa
