/- Proved here: sccReverse_holds, the given statement Rows.SccReverseSaid: the law girolaw31.SccReverse returns true and does not panic, at every input that the statement speaks of; no condition beyond the statement. -/
/- 'girolaw31.SccReverse': for every input the law returns true, and each argument reads behind the call as it read before. No condition. -/
import Derived.Test.YtgdppeobgefogaaMg19
namespace Go.Proofs.Ytgdppeobgefogaa
open Go.RowKit
theorem smlG_tot (g : List (List Int)) : totG (smlG g) (smlG g).length ≤ 196 := by
  have hl := smlG_len g
  have hrow : ∀ l ∈ smlG g, l.length ≤ 14 := fun l hl => by
    obtain ⟨m, _, rfl⟩ := List.mem_map.1 hl;unfold rowC; rw [List.length_map, List.length_take]; omega
  have key : ∀ m, m ≤ (smlG g).length → totG (smlG g) m ≤ m * 14 := by
    intro m
    induction m with
    | zero => intro _; exact Nat.zero_le _
    | succ m ih =>
      intro hm;have h1 := ih (by omega);have h2 := hrow (sucs (smlG g) m) (by rw [sucs_get (by omega)]; exact List.getElem_mem _);have h3 : totG (smlG g) (m + 1) = totG (smlG g) m + (sucs (smlG g) m).length := by unfold totG; rw [List.range_succ, List.map_append, List.sum_append]; simp
      omega
  have := key _ (Nat.le_refl _);omega
theorem rev_row {g : List (List Nat)} : ∀ l ∈ revG g, l.length ≤ totG g g.length := fun l hl => by
  obtain ⟨j, _, rfl⟩ := List.mem_map.1 hl
  have key : ∀ m, ((List.range m).flatMap fun a => List.replicate ((sucs g a).count j) a).length ≤ totG g m := by
    intro m
    induction m with
    | zero => exact Nat.zero_le _
    | succ m ih =>
      unfold totG at ih ⊢;rw [List.range_succ, List.flatMap_append, List.length_append, List.map_append, List.sum_append, List.flatMap_singleton, List.map_singleton, List.sum_singleton, List.length_replicate];exact Nat.add_le_add ih List.count_le_length
  exact key g.length
theorem revG_gtS {g : List (List Nat)} (hg : GT g) (h14 : g.length ≤ 14) (ht : totG g g.length ≤ 5000) : GT (revG g) := by
  refine ⟨revG_gb hg, ?_⟩;have hl := revG_len g
  have key : ∀ m, m ≤ (revG g).length → totG (revG g) m ≤ m * 5000 := by
    intro m
    induction m with
    | zero => intro _; exact Nat.zero_le _
    | succ m ih =>
      intro hm;have h1 := ih (by omega);have h2 := rev_row (g := g) (sucs (revG g) m) (by rw [sucs_get (by omega)]; exact List.getElem_mem _);have h3 : totG (revG g) (m + 1) = totG (revG g) m + (sucs (revG g) m).length := by unfold totG; rw [List.range_succ, List.map_append, List.sum_append]; simp
      omega
  have := key _ (Nat.le_refl _);omega
theorem rh_rev {g : List (List Nat)} {a b : Nat} (h : Rh (sucs (revG g)) a b) (ha : a < g.length) : b < g.length ∧ Rh (sucs g) b a := by
  induction h with
  | refl => exact ⟨ha, .refl _⟩
  | step _ e ih =>
    obtain ⟨h1, h2⟩ := (revG_mem ih.1).1 e;exact ⟨h1, (Rh.one h2).trans ih.2⟩
theorem rev_rh {g : List (List Nat)} (hg : GB g) {a b : Nat} (h : Rh (sucs g) a b) (ha : a < g.length) : b < g.length ∧ Rh (sucs (revG g)) b a := by
  induction h with
  | refl => exact ⟨ha, .refl _⟩
  | step _ e ih =>
    have hc := hg.suc ih.1 e;exact ⟨hc, (Rh.one ((revG_mem hc).2 ⟨ih.1, e⟩)).trans ih.2⟩
theorem com_sub {g r : List (List Nat)} (hg : GT g) (hr : GT r) (hl : r.length = g.length) (he : ∀ i j, i < g.length → j < g.length → (noC g i = noC g j ↔ noC r i = noC r j)) : ∀ l ∈ comC g, l ∈ comC r := by
  intro l hm;obtain ⟨c, hc, rfl⟩ := List.mem_map.1 hm;obtain ⟨u, hu, hu2⟩ := (cn_ex g hg).use c (List.mem_range.1 hc);refine List.mem_map.2 ⟨noC r u, List.mem_range.2 ((cn_ex r hr).lt u (by rw [hl]; exact hu)), ?_⟩;rw [hl, ← hu2];exact List.filter_congr fun v hv => decide_eq_decide.2 (he v u (List.mem_range.1 hv) hu).symm
theorem com_nodup {g : List (List Nat)} (hg : GT g) : (comC g).Nodup := by
  refine List.pairwise_map.2 (List.Pairwise.imp_of_mem (fun {a b} ha hb hab e => ?_) List.nodup_range);obtain ⟨u, hu, hu2⟩ := (cn_ex g hg).use a (List.mem_range.1 ha);have h1 : u ∈ outT (noC g) g.length a := List.mem_filter.2 ⟨List.mem_range.2 hu, decide_eq_true hu2⟩;rw [e] at h1;have := of_decide_eq_true (List.mem_filter.1 h1).2;exact hab (hu2.symm.trans this)
theorem com_rev {g : List (List Nat)} (hg : GT g) (hr : GT (revG g)) : (∀ l ∈ comC g, l ∈ comC (revG g)) ∧ (comC g).length = (comC (revG g)).length := by
  have hl := revG_len g
  have he : ∀ i j, i < g.length → j < g.length → (noC g i = noC g j ↔ noC (revG g) i = noC (revG g) j) := fun i j hi hj => by
    rw [(cn_ex g hg).scc i j hi hj, (cn_ex _ hr).scc i j (by rw [hl]; exact hi) (by rw [hl]; exact hj)];exact ⟨fun h => ⟨(rev_rh hg.gb h.2 hj).2, (rev_rh hg.gb h.1 hi).2⟩, fun h => ⟨(rh_rev h.2 hj).2, (rh_rev h.1 hi).2⟩⟩
  have h1 := com_sub hg hr hl he;have h2 := com_sub hr hg hl.symm (fun i j hi hj => (he i j (by rw [← hl]; exact hi) (by rw [← hl]; exact hj)).symm);exact ⟨h1, Nat.le_antisymm (ZbH (com_nodup hg) h1) (ZbH (com_nodup hr) h2)⟩
theorem com_len {g : List (List Nat)} (hg : GT g) : (comC g).length ≤ g.length ∧ ∀ l ∈ comC g, l.length ≤ g.length := by
  constructor
  · rw [comC, Zbt];obtain ⟨of, cnt, h⟩ := scc_ex g.length (sucs g);have := (conC_of hg.gb (con_cn hg h)).2.1;rw [← this]; exact h.le
  · intro l hl;obtain ⟨c, _, rfl⟩ := List.mem_map.1 hl;exact outT_len _ _ _
theorem memT {l : List (List Nat)} {m : Nat} {x : List Nat} (hm : m < l.length) (h : x ∈ l.take m) : AV.d (boolD true) = AV.d (boolD (decide (x ∈ l.take (m + 1)))) := by
  rw [decide_eq_true (by rw [List.take_succ_eq_append_getElem hm]; exact List.mem_append_left _ h)]
theorem memF {l : List (List Nat)} {m : Nat} {x : List Nat} (hm : m < l.length) (h : ¬ x ∈ l.take m) : AV.d (boolD (decide (x = l[m]))) = AV.d (boolD (decide (x ∈ l.take (m + 1)))) := by
  refine congrArg (fun b => AV.d (boolD b)) (decide_eq_decide.2 ⟨fun e => ?_, fun h2 => ?_⟩)
  · rw [List.take_succ_eq_append_getElem hm]; exact List.mem_append_right _ (List.mem_singleton.2 e)
  · rw [List.take_succ_eq_append_getElem hm] at h2;exact (List.mem_append.1 h2).elim (fun h3 => (h h3).elim) List.mem_singleton.1
set_option maxRecDepth 100000 in
theorem lawS6_p (g0' : List (List Int)) (hg : g0'.length ≤ 140737488355328) (hl : ∀ l ∈ g0', l.length ≤ 140737488355328) : PCalls Try.prog 4 [.d (grI g0')] (boolD true) := by
  have hsm := small_p g0' hg hl;have hgt := smlG_gt g0';have hgl := smlG_len g0';have hgt2 := smlG_tot g0'
  obtain ⟨g, hge⟩ : ∃ g, smlG g0' = g := ⟨_, rfl⟩
  rw [hge] at hsm hgt hgl hgt2;have hrt := revG_gtS hgt (by omega) (by omega);have hrl := revG_len g;have hrt2 : totG (revG g) (revG g).length ≤ 1048576 := hrt.tot;have hrr := revG_gb hrt;obtain ⟨hsub, hlen⟩ := com_rev hgt hrt;obtain ⟨hc1, hc2⟩ := com_len hgt;obtain ⟨hc3, hc4⟩ := com_len hrt;refine Zbf Try.func4 rfl rfl Try.ntmps4 rfl rfl rfl fun F hF => (Zag (Zae (goAs rfl rfl (Zaf (Zag (Zag (Zae (Zab.go (Zba (known_p) rfl rfl) ?_))))))))
  first | refine Zab.go (st_notP rfl rfl) ?_ | refine Zab.go (st_not rfl rfl) ?_
  refine Zaf (Zbu rfl (rfl) (ZaC (Zag (Zae ?_))));refine goMv rfl rfl (Zab.go (Zba (hsm) rfl rfl) (goAs rfl rfl (Zaf (Zag (Zae (goMv rfl rfl (Zab.go (Zba (reverse_p g hgt) rfl rfl) (goMv rfl rfl ?_))))))))
  first | refine Zab.go (ZaO rfl rfl rfl) ?_ | refine Zab.go (ZaP rfl rfl rfl) ?_
  first | refine Zab.go (ZaO rfl rfl rfl) ?_ | refine Zab.go (ZaP rfl rfl rfl) ?_
  refine goAs rfl rfl (goAs rfl rfl (Zaf (Zag (Zae (goMv rfl rfl (Zab.go (Zba (reverse_p (revG g) hrt) rfl rfl) (goMv rfl rfl ?_)))))))
  first | refine Zab.go (ZaO rfl rfl rfl) ?_ | refine Zab.go (ZaP rfl rfl rfl) ?_
  first | refine Zab.go (ZaO rfl rfl rfl) ?_ | refine Zab.go (ZaP rfl rfl rfl) ?_
  refine goAs rfl rfl (goAs rfl rfl (Zaf (Zag (Zag (Zae (goMv rfl rfl ?_))))))
  first | refine Zab.go (st_neq rfl rfl rfl) ?_ | refine Zab.go (ZbA rfl rfl rfl) ?_ | refine Zab.go (ZbB rfl rfl rfl) ?_ | refine Zab.go (ZbE Try.underlying26 rfl rfl rfl) ?_ | refine Zab.go (ZbC Try.underlying26 rfl rfl rfl) ?_ | refine Zab.go (st_neqN Try.underlying26 rfl rfl) ?_ | refine Zab.go (ZbD Try.underlying26 rfl rfl rfl) ?_ | refine Zab.go (st_neqFN Try.underlying26 rfl rfl) ?_
  refine goMv rfl rfl (o_setF 30 rfl (decide_eq_false (by decide)) (ZaH rfl rfl rfl (goMv rfl rfl (ZaH rfl rfl rfl ?_))))
  first | refine Zab.go (st_neq rfl rfl rfl) ?_ | refine Zab.go (ZbA rfl rfl rfl) ?_ | refine Zab.go (ZbB rfl rfl rfl) ?_ | refine Zab.go (ZbE Try.underlying26 rfl rfl rfl) ?_ | refine Zab.go (ZbC Try.underlying26 rfl rfl rfl) ?_ | refine Zab.go (st_neqN Try.underlying26 rfl rfl) ?_ | refine Zab.go (ZbD Try.underlying26 rfl rfl rfl) ?_ | refine Zab.go (st_neqFN Try.underlying26 rfl rfl) ?_
  refine Zab.go (ZaW rfl rfl rfl rfl) (goMv rfl rfl (o_setF 34 rfl (decide_eq_false (by decide)) ?_));refine ZaH rfl rfl rfl (goMv rfl rfl (ZaH rfl rfl rfl (goMv rfl rfl (ZaH rfl rfl rfl (Zab.go (Zba (refrev_p g hgt.gb) rfl rfl) (ZaH rfl rfl rfl (Zab.go (Zba (same_p (revG g) (revG g) (by omega) (by omega) (fun x hx => by have := hrt.gb.e x hx; omega) (fun x hx => by have := hrt.gb.e x hx; omega)) rfl rfl) (ZaH rfl rfl rfl ?_))))))))
  first | refine Zab.go (st_notP rfl rfl) ?_ | refine Zab.go (st_not rfl rfl) ?_
  refine Zab.go (ZaW rfl rfl rfl rfl) (goMv rfl rfl (o_setF 41 rfl (decide_eq_false (fun h => h rfl)) (ZaH rfl rfl rfl (goMv rfl rfl ?_))));refine ZaH rfl rfl rfl (goMv rfl rfl (ZaH rfl rfl rfl (Zab.go (Zba (refrev_p g hgt.gb) rfl rfl) (ZaH rfl rfl rfl (Zab.go (Zba (refrev_p (revG g) hrt.gb) rfl rfl) (ZaH rfl rfl rfl (Zab.go (Zba (same_p (revG (revG g)) (revG (revG g)) (by rw [revG_len]; omega) (by rw [revG_len]; omega) (fun x hx => by have := hrr.e x hx; omega) (fun x hx => by have := hrr.e x hx; omega)) rfl rfl) (ZaH rfl rfl rfl ?_))))))))
  first | refine Zab.go (st_notP rfl rfl) ?_ | refine Zab.go (st_not rfl rfl) ?_
  refine Zab.go (ZaW rfl rfl rfl rfl) (Zaf (Zbu rfl (decide_eq_false (fun h => h rfl)) (ZaC (Zag (Zae (goMv rfl rfl (Zab.go (Zba (components_p g hgt) rfl rfl) (goMv rfl rfl ?_))))))))
  first | refine Zab.go (ZaO rfl rfl rfl) ?_ | refine Zab.go (ZaP rfl rfl rfl) ?_
  first | refine Zab.go (ZaO rfl rfl rfl) ?_ | refine Zab.go (ZaP rfl rfl rfl) ?_
  refine goAs rfl rfl (goAs rfl rfl (Zaf (Zag (Zae (goMv rfl rfl (Zab.go (Zba (components_p (revG g) hrt) rfl rfl) (goMv rfl rfl ?_)))))))
  first | refine Zab.go (ZaO rfl rfl rfl) ?_ | refine Zab.go (ZaP rfl rfl rfl) ?_
  first | refine Zab.go (ZaO rfl rfl rfl) ?_ | refine Zab.go (ZaP rfl rfl rfl) ?_
  refine goAs rfl rfl (goAs rfl rfl (Zaf (Zag (Zag (Zae (goMv rfl rfl ?_))))))
  first | refine Zab.go (st_neq rfl rfl rfl) ?_ | refine Zab.go (ZbA rfl rfl rfl) ?_ | refine Zab.go (ZbB rfl rfl rfl) ?_ | refine Zab.go (ZbE Try.underlying26 rfl rfl rfl) ?_ | refine Zab.go (ZbC Try.underlying26 rfl rfl rfl) ?_ | refine Zab.go (st_neqN Try.underlying26 rfl rfl) ?_ | refine Zab.go (ZbD Try.underlying26 rfl rfl rfl) ?_ | refine Zab.go (st_neqFN Try.underlying26 rfl rfl) ?_
  refine goMv rfl rfl (o_setF 61 rfl (decide_eq_false (by decide)) (ZaH rfl rfl rfl (goMv rfl rfl (ZaH rfl rfl rfl ?_))))
  first | refine Zab.go (st_neq rfl rfl rfl) ?_ | refine Zab.go (ZbA rfl rfl rfl) ?_ | refine Zab.go (ZbB rfl rfl rfl) ?_ | refine Zab.go (ZbE Try.underlying26 rfl rfl rfl) ?_ | refine Zab.go (ZbC Try.underlying26 rfl rfl rfl) ?_ | refine Zab.go (st_neqN Try.underlying26 rfl rfl) ?_ | refine Zab.go (ZbD Try.underlying26 rfl rfl rfl) ?_ | refine Zab.go (st_neqFN Try.underlying26 rfl rfl) ?_
  refine Zab.go (ZaW rfl rfl rfl rfl) (goMv rfl rfl (o_setF 65 rfl (decide_eq_false (by decide)) (ZaH rfl rfl rfl (goMv rfl rfl (ZaH rfl rfl rfl ?_)))));refine Zab.go (ZaD rfl (List.length_map ..) Try.underlying22 rfl) (ZaH rfl rfl rfl (goMv rfl rfl (ZaH rfl rfl rfl (Zab.go (ZaD rfl ((List.length_map ..).trans hlen.symm) Try.underlying22 rfl) (ZaH rfl rfl rfl (Zab.go (st_neq rfl rfl rfl) (Zab.go (ZaW rfl rfl rfl rfl) (Zaf ?_))))))));refine Zbu rfl (decide_eq_false (fun h => h rfl)) (ZaC (Zag (Zag (Zae (goAs rfl rfl (Zaf (Zay (a_loop (α := Nat) (fun k => ⟨98, [(7, (.d (grD (comC g)))), (9, (.d (grD (comC (revG g))))), (11, (.d (natD k)))], []⟩) (fun k => k ≤ (comC g).length) (fun k => (comC g).length - k) (0) (Nat.zero_le _) (ZbQ ⟨rfl, rfl, rfl, trivial⟩) ?_))))))));intro k hk;refine Zag (Zag (Zae (goMv rfl rfl (goMv rfl rfl (Zab.go (ZaD rfl (List.length_map ..) Try.underlying22 rfl) ?_)))))
  first | refine Zab.go (ZaY rfl rfl rfl) ?_ | refine Zab.go (ZaT rfl rfl rfl) ?_
  refine Zaf ?_
  first | refine ZaU rfl (fun h75 => ?_) (fun h75 => ?_) | refine ZaF rfl (fun h75 => ?_) (fun h75 => ?_)
  · refine ZaC (Zag (Zay (Zag ?_)));have hkl : k < (comC g).length := Za7 h75;have hx := hsub _ (List.getElem_mem hkl);have hgk := getS hkl;have hxl := hc2 _ (List.getElem_mem hkl)
    obtain ⟨x, hxe⟩ : ∃ x, (comC g)[k] = x := ⟨_, rfl⟩
    rw [hxe] at hx hgk hxl;refine Zae ?_;refine goAs rfl rfl (Zaf (Zag (Zag (Zae (goAs rfl rfl (Zaf (Zay (a_loop (α := Nat) (fun m => ⟨98, [(7, (.d (grD (comC g)))), (9, (.d (grD (comC (revG g))))), (11, (.d (natD k))), (12, (.d (boolD (decide (x ∈ (comC (revG g)).take m))))), (13, (.d (natD m)))], []⟩) (fun m => m ≤ (comC (revG g)).length) (fun m => (comC (revG g)).length - m) (0) (Nat.zero_le _) (ZbQ ⟨rfl, rfl, rfl, rfl, rfl, trivial⟩) ?_))))))));intro m hm;refine Zag (Zag (Zae (goMv rfl rfl (goMv rfl rfl (Zab.go (ZaD rfl (List.length_map ..) Try.underlying22 rfl) ?_)))))
    first | refine Zab.go (ZaY rfl rfl rfl) ?_ | refine Zab.go (ZaT rfl rfl rfl) ?_
    refine Zaf ?_
    first | refine ZaU rfl (fun h81 => ?_) (fun h81 => ?_) | refine ZaF rfl (fun h81 => ?_) (fun h81 => ?_)
    · refine ZaC (Zag (Zay ?_));have hml : m < (comC (revG g)).length := Za7 h81;have hyl := hc4 _ (List.getElem_mem hml);refine Za4 [[], [0], [0, 1], [0, 1], [0, 1, 2, 3], [0, 1, 2, 3, 4], [0, 1], [0, 1], [0, 1, 6, 7], [0, 1, 6, 7, 8], [0, 1, 2, 3, 4, 5, 6, 7, 8, 9], [0, 1, 2, 3, 4, 5, 6, 7, 8, 9, 10], [0, 1, 2, 3, 4, 5, 6, 7, 8, 9, 10, 11]] mixed rfl (dw1 1 rfl rfl (goMv rfl rfl (Zaf ⟨rfl, ?_⟩)));refine dw1 2 rfl rfl (goMv rfl rfl ?_)
      first | refine Zbw 85 rfl (fun h85 => ?_) (fun h85 => ?_) | refine Zbj 85 rfl (fun h85 => ?_) (fun h85 => ?_)
      · refine Zaf ⟨rfl, ?_⟩;refine dws (Zad [7, 85] [] rfl rfl (fun _ => ZaI rfl rfl rfl rfl) (Zad [11, 85] [] rfl rfl (fun _ => ZaI rfl rfl rfl rfl) (Zad [86, 87, 85] [] rfl rfl (fun _ => ZaI rfl rfl rfl rfl) ?_)));refine Zad [88, 85] [] rfl rfl (fun _ => ZaI rfl rfl rfl rfl) (Zad [9, 85] [] rfl rfl (fun _ => ZaI rfl rfl rfl rfl) (Zad [13, 85] [] rfl rfl (fun _ => ZaI rfl rfl rfl rfl) (Zad [90, 91, 85] [] rfl rfl (fun _ => ZaI rfl rfl rfl rfl) (Zad [92, 85] [] rfl rfl (fun _ => ZaI rfl rfl rfl rfl) (dwc 10 rfl rfl rfl (dw1 11 rfl rfl (ZaG rfl rfl rfl rfl (Zaf ⟨rfl, ?_⟩))))))));refine dw1 12 rfl rfl (Zab.go (Za8 rfl rfl rfl rfl) (Zaf ⟨rfl, ?_⟩));refine dw1 13 rfl rfl (goAs rfl rfl (Zaf ⟨rfl, ?_⟩));refine dwe (a_as 12 (.d (boolD (decide (x ∈ (comC (revG g)).take (m + 1))))) rfl (by first | exact memT hml h85 | exact memF hml h85) (Zae (goMv rfl rfl (Zab.go (ZaJ rfl rfl (IntWalk.i64_in _ (by omega)) rfl) (goAs rfl rfl (Zaf ?_))))));exact ⟨m + 1, hml, by omega, ⟨rfl, rfl, fun _ _ => Has.get (l := [(7, _), (9, _), (11, _), (12, _), (13, _)]) ⟨rfl, rfl, rfl, rfl, rfl, trivial⟩⟩⟩
      · refine Zaf ⟨rfl, ?_⟩;refine dws ?_
        first | refine Zad [7, 85] [] rfl rfl (fun _ => Zan rfl rfl rfl (Zah rfl rfl)) ?_ | refine Zac [7, 85] rfl rfl (fun _ => Zan rfl rfl rfl (Zah rfl rfl)) ?_
        first | refine Zad [11, 85] [] rfl rfl (fun _ => Zan rfl rfl rfl (Zah rfl rfl)) ?_ | refine Zac [11, 85] rfl rfl (fun _ => Zan rfl rfl rfl (Zah rfl rfl)) ?_
        first | refine Zad [86, 87, 85] [] rfl rfl (fun _ => Zan rfl rfl rfl (Zam (k) rfl rfl (rfl) (hgk) Try.underlying22 rfl sz25 rfl)) ?_ | refine Zac [86, 87, 85] rfl rfl (fun _ => Zan rfl rfl rfl (Zam (k) rfl rfl (rfl) (hgk) Try.underlying22 rfl sz25 rfl)) ?_ | refine Zad [86, 87, 85] [] rfl rfl (fun _ => Zan rfl rfl rfl (Zal (k) rfl rfl (rfl) (hgk) rfl Try.underlying22 sz25 rfl)) ?_ | refine Zac [86, 87, 85] rfl rfl (fun _ => Zan rfl rfl rfl (Zal (k) rfl rfl (rfl) (hgk) rfl Try.underlying22 sz25 rfl)) ?_
        first | refine Zad [88, 85] [] rfl rfl (fun _ => Zan rfl rfl rfl (Zai rfl rfl on25 rfl)) ?_ | refine Zac [88, 85] rfl rfl (fun _ => Zan rfl rfl rfl (Zai rfl rfl on25 rfl)) ?_ | refine Zad [88, 85] [] rfl rfl (fun _ => Zan rfl rfl rfl (Zak rfl rfl rfl on25 rfl)) ?_ | refine Zac [88, 85] rfl rfl (fun _ => Zan rfl rfl rfl (Zak rfl rfl rfl on25 rfl)) ?_ | refine Zad [88, 85] [] rfl rfl (fun _ => Zan rfl rfl rfl (Zaj rfl rfl (rfl) rfl on25 rfl)) ?_ | refine Zac [88, 85] rfl rfl (fun _ => Zan rfl rfl rfl (Zaj rfl rfl (rfl) rfl on25 rfl)) ?_
        first | refine Zad [9, 85] [] rfl rfl (fun _ => Zan rfl rfl rfl (Zah rfl rfl)) ?_ | refine Zac [9, 85] rfl rfl (fun _ => Zan rfl rfl rfl (Zah rfl rfl)) ?_
        first | refine Zad [13, 85] [] rfl rfl (fun _ => Zan rfl rfl rfl (Zah rfl rfl)) ?_ | refine Zac [13, 85] rfl rfl (fun _ => Zan rfl rfl rfl (Zah rfl rfl)) ?_
        first | refine Zad [90, 91, 85] [] rfl rfl (fun _ => Zan rfl rfl rfl (Zam (m) rfl rfl (rfl) (getS hml) Try.underlying22 rfl sz25 rfl)) ?_ | refine Zac [90, 91, 85] rfl rfl (fun _ => Zan rfl rfl rfl (Zam (m) rfl rfl (rfl) (getS hml) Try.underlying22 rfl sz25 rfl)) ?_ | refine Zad [90, 91, 85] [] rfl rfl (fun _ => Zan rfl rfl rfl (Zal (m) rfl rfl (rfl) (getS hml) rfl Try.underlying22 sz25 rfl)) ?_ | refine Zac [90, 91, 85] rfl rfl (fun _ => Zan rfl rfl rfl (Zal (m) rfl rfl (rfl) (getS hml) rfl Try.underlying22 sz25 rfl)) ?_
        first | refine Zad [92, 85] [] rfl rfl (fun _ => Zan rfl rfl rfl (Zai rfl rfl on25 rfl)) ?_ | refine Zac [92, 85] rfl rfl (fun _ => Zan rfl rfl rfl (Zai rfl rfl on25 rfl)) ?_ | refine Zad [92, 85] [] rfl rfl (fun _ => Zan rfl rfl rfl (Zak rfl rfl rfl on25 rfl)) ?_ | refine Zac [92, 85] rfl rfl (fun _ => Zan rfl rfl rfl (Zak rfl rfl rfl on25 rfl)) ?_ | refine Zad [92, 85] [] rfl rfl (fun _ => Zan rfl rfl rfl (Zaj rfl rfl (rfl) rfl on25 rfl)) ?_ | refine Zac [92, 85] rfl rfl (fun _ => Zan rfl rfl rfl (Zaj rfl rfl (rfl) rfl on25 rfl)) ?_
        refine dwc 10 rfl rfl rfl (dw1 11 rfl rfl (ZaH rfl rfl rfl (Zab.go (Zba (eqN_p x (comC (revG g))[m] (by omega) (by omega)) rfl rfl) (Zaf ⟨rfl, ?_⟩))));refine dw1 12 rfl rfl (Zab.go (ZaW rfl rfl rfl rfl) (Zaf ⟨rfl, ?_⟩));refine dw1 13 rfl rfl (goAs rfl rfl (Zaf ⟨rfl, ?_⟩));refine dwe (a_as 12 (.d (boolD (decide (x ∈ (comC (revG g)).take (m + 1))))) rfl (by first | exact memT hml h85 | exact memF hml h85) (Zae (goMv rfl rfl (Zab.go (ZaJ rfl rfl (IntWalk.i64_in _ (by omega)) rfl) (goAs rfl rfl (Zaf ?_))))));exact ⟨m + 1, hml, by omega, ⟨rfl, rfl, fun _ _ => Has.get (l := [(7, _), (9, _), (11, _), (12, _), (13, _)]) ⟨rfl, rfl, rfl, rfl, rfl, trivial⟩⟩⟩
    · refine ZaL (Zag ?_);have hme : m = (comC (revG g)).length := by have := h81; omega
      refine Zae (goMv rfl rfl ?_)
      first | refine Zab.go (st_notP rfl rfl) ?_ | refine Zab.go (st_not rfl rfl) ?_
      refine Zaf (Zbu rfl ((by rw [hme, List.take_length]; exact decide_eq_false (fun h => h hx))) (ZaC (Zae (goMv rfl rfl (Zab.go (ZaJ rfl rfl (IntWalk.i64_in _ (by omega)) rfl) (goAs rfl rfl (Zaf ?_)))))));exact ⟨k + 1, hkl, by omega, ⟨rfl, rfl, fun _ _ => Has.get (l := [(7, _), (9, _), (11, _)]) ⟨rfl, rfl, rfl, trivial⟩⟩⟩
  · refine ZaL (Zag (Zae (goAs rfl rfl (Zaf (Zbg ?_)))));exact ⟨_, [], [], ZaZ rfl, rfl, rfl, rfl, rfl⟩
end Go.Proofs.Ytgdppeobgefogaa
namespace Go.Proofs.Ytgdppeobgefogaa
open Go.ChangeShapes Go.WideShapes Go.ChangeAt Go.RowKit

set_option maxRecDepth 100000 in
theorem sccReverse_lifted (os : Os) (started : os.Started) (H : Type) (enc : TypeId × Value → H) :
    ReturnsInHanded {} Try.checked os 4 .any (Rows.sccReverseSpec.pre6 enc Try.prog Try.f4 Rows.sccReverseRow.domain false) (Rows.sccReverseSpec.post enc Try.prog Try.f4 false true false false) := by
  refine returnsInHanded_of_change_sized (C := Try.checked) Try.own started (by kernel_rfl) Try.func4
    (ChangeSpec.witness6 (enc := enc) (C := Try.checked) false ⟨#[], #[.slice none 0 0], []⟩ 8 (by kernel_rfl) (by kernel_rfl) (by kernel_rfl) (by kernel_rfl)) ?_
  intro W base args ds gs before hval0 hW _ hwt _;have hW' := hW;obtain ⟨p, q, hA0, hV, rfl, _, _⟩ := hW;have hlt : ∀ x ∈ p ++ q, x.block < W.heap.size := fun x hx => hW'.lt x hx;have hA : DataW.TrodAll enc Try.prog W 0 (fun _ => true) true Try.f4.params.toList args.toList ds p := hA0;rw [Try.params4] at hA;obtain ⟨v0, d0, rfl, rfl, h0⟩ := trodAll_one hA;obtain ⟨rfl, rfl⟩ := trodVars_none hV;have hwz : ∀ n ∈ DataW.weightsEach Try.prog ([22] : List TypeId) ([d0]), n ≤ reachBytes := fun n hn => of_decide_eq_true (List.all_eq_true.1 hwt n (by rw [Try.params4]; exact hn));have hval : ∀ (j : Nat) t v, Try.f4.params[j]? = some t → (#[v0] : Array Value)[j]? = some v → Value.okWide Try.prog W .any base t v := hval0;rw [Try.params4] at hval;obtain ⟨n0, g0⟩ := h0;have hv0 : v0.oneCell' = true := by obtain ⟨_, _, _, e⟩ := okWide_slice Try.underlying22 (hval 0 22 v0 rfl rfl); rw [e]; rfl
  obtain ⟨a0, q0, _, r0⟩ := (openSl Try.underlying22 (by kernel_rfl) (by omega) (b := 24) (by kernel_rfl) (openSl Try.underlying25 (by kernel_rfl) (by omega) (b := 8) (by kernel_rfl) (openInt Try.underlying3))) _ _ _ g0 (fun x hx => hlt x (by simp [hx])) (fun n hn => hwz n (DataW.weights_mem_each (j := 0) (t := 22) rfl rfl n hn));refine (law_calls (lawS6_p a0 (by have := q0.2; omega) (fun x hx => by have := (q0.1 x hx).2; omega)) (vs := [v0]) rfl (fun i a v ha hv => ?_)).mono fun e W' ⟨he, hb⟩ => ?_
  · rcases i with _ | i
    · simp at ha hv; subst ha hv; exact RepC.arg1 rfl rfl hv0 r0
    · simp at ha
  subst he;exact ⟨_, rfl, law_post (tb := 4) Try.laidOut (by kernel_rfl) rfl rfl Try.underlying4 hW' ⟨rfl, rfl, rfl⟩ hb⟩

theorem sccReverse_holds : Rows.SccReverseSaid :=
  OpenClaim.holds_of_wide 4 Try.f4 rfl rfl rfl rfl rfl rfl rfl ⟨rfl, rfl, rfl, rfl, rfl⟩ rfl rfl rfl rfl rfl (by kernel_rfl) Try.func4 (by kernel_rfl)
    (of_decide_eq_true (by kernel_rfl)) (by unfold Func.isWrapper; first | (rw [if_pos (by decide +kernel)]; kernel_rfl) | (rw [if_neg (by decide +kernel)]; exact ⟨rfl, rfl⟩))
    (fun os started H enc _ => sccReverse_lifted os started H enc)
#print axioms sccReverse_holds

end Go.Proofs.Ytgdppeobgefogaa
