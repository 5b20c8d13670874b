/- Layer 28: the laws of Totals and of settling twice. -/
import Derived.Test.YtfmpiabmnjmobaaTot7
namespace Go.Proofs.Ytfmpiabmnjmobaa
open Go.RowKit

theorem setlP_sml {p : Prb} (h : Sml p) (l : List Int) : Sml (setlP p l) := by
  unfold setlP
  split
  · refine ⟨Nat.le_trans (setlI_len _ _) h.1, by show (totR p l).length ≤ 24; unfold totR; rw [List.length_map]; exact h.2.1, fun i hi => ?_⟩
    obtain ⟨x, hx, rfl⟩ := List.mem_map.1 (show i ∈ (p.it.filter fun i => !inB l i).map (restI l) from hi)
    have hg := h.2.2 x (List.mem_filter.1 hx).1
    exact ⟨hg.1, hg.2.1, Nat.le_trans (kept_le _ _) hg.2.2⟩
  · exact ⟨by simp, by simp, by simp⟩
theorem sml_few {p : Prb} (h : Sml p) : Few p := ⟨by have := h.2.1; omega, by have := h.1; omega, fun i hi => by have := h.2.2 i hi; omega⟩
theorem set_ok' {ids l : List Int} (h1 : l.Nodup) (h2 : ∀ x ∈ l, x ∈ ids) : setE ids l = 0 := by
  refine fst0_zero.2 fun j hj => ?_
  have hj : j < l.length := List.mem_range.1 hj
  unfold chErr
  rw [getD_at 0 hj, if_neg (fun h => h (h2 _ (List.getElem_mem hj))), if_neg]
  intro h
  obtain ⟨i, hi, e⟩ := List.mem_take_iff_getElem.1 h
  rw [List.Nodup, List.pairwise_iff_getElem] at h1
  exact h1 i j (by omega) hj (by omega) e
theorem inB_app (a b : List Int) (i : Itm) : inB (a ++ b) i = (inB a i || inB b i) := by unfold inB; simp
theorem kept_app (a b l : List Int) : kept b (kept a l) = kept (a ++ b) l := by
  unfold kept; rw [List.filter_filter]
  apply List.filter_congr
  intro x _
  unfold inS; simp [Bool.and_comm]
theorem setl_app (a b : List Int) (its : List Itm) : setlI b (setlI a its) = setlI (a ++ b) its := by
  unfold setlI
  rw [List.filter_map, List.map_map, List.filter_filter]
  rw [List.filter_congr (q := fun i => !inB (a ++ b) i) (fun x _ => by rw [inB_app]; show (!inB b (restI a x) && !inB a x) = _; have : inB b (restI a x) = inB b x := rfl; rw [this]; simp [Bool.and_comm])]
  apply List.map_congr_left
  intro x _
  show restI b (restI a x) = restI (a ++ b) x
  unfold restI; simp only [kept_app]
theorem tot_app (a b : List Int) (h : (a ++ b).Nodup) : ∀ its : List Itm, ∀ r, totQ (its.filter (inB a)) r + totQ ((setlI a its).filter (inB b)) r = totQ (its.filter (inB (a ++ b))) r
  | [], r => by simp [totQ, setlI]
  | x :: its, r => by
    have ih := tot_app a b h its r
    have hc : ∀ (i : Itm) l, totQ (i :: l) r = ctrSum (ctr i) r + totQ l r := fun i l => by simp [totQ]
    have hrs : ctr (restI a x) = ctr x := rfl
    have hB : inB b (restI a x) = inB b x := rfl
    by_cases ha : inB a x = true
    · have e1 : setlI a (x :: its) = setlI a its := by unfold setlI; rw [List.filter_cons_of_neg (by simp [ha])]
      have e2 : inB (a ++ b) x = true := by rw [inB_app, ha]; rfl
      rw [e1, List.filter_cons_of_pos ha, List.filter_cons_of_pos e2, hc, hc]; omega
    · have e1 : setlI a (x :: its) = restI a x :: setlI a its := by unfold setlI; rw [List.filter_cons_of_pos (by simp [ha])]; rfl
      rw [e1, List.filter_cons_of_neg ha]
      by_cases hb : inB b x = true
      · have e2 : inB (a ++ b) x = true := by rw [inB_app, hb]; simp
        rw [List.filter_cons_of_pos (by rw [hB]; exact hb), List.filter_cons_of_pos e2, hc, hc, hrs]; omega
      · have e2 : ¬ inB (a ++ b) x = true := by rw [inB_app]; simp_all
        rw [List.filter_cons_of_neg (by rw [hB]; exact hb), List.filter_cons_of_neg e2]; exact ih
theorem settle_twice {p : Prb} {a b : List Int} (h : (a ++ b).Nodup) (h1 : setlE p a = 0) (h2 : setlE (setlP p a) b = 0) (h3 : setlE p (a ++ b) = 0) : setlP (setlP p a) b = setlP p (a ++ b) := by
  have e1 : setlP p a = ⟨totR p a, setlI a p.it⟩ := if_pos h1
  have e2 : setlP (setlP p a) b = ⟨totR (setlP p a) b, setlI b (setlP p a).it⟩ := if_pos h2
  have e3 : setlP p (a ++ b) = ⟨totR p (a ++ b), setlI (a ++ b) p.it⟩ := if_pos h3
  rw [e2, e3, e1, setl_app]
  congr 1
  unfold totR
  simp only [List.map_map]
  apply List.map_congr_left
  intro x _
  show (⟨x.r, x.n + totQ (p.it.filter (inB a)) x.r + totQ ((setlI a p.it).filter (inB b)) x.r⟩ : Roo) = ⟨x.r, x.n + totQ (p.it.filter (inB (a ++ b))) x.r⟩
  rw [← tot_app a b h p.it x.r]
  congr 1; omega
theorem setlE_12 {p : Prb} (hE : prbE p = 0) {l : List Int} (h1 : l.Nodup) (h2 : ∀ x ∈ l, x ∈ p.it.map Itm.id) : setlE p l = 0 ∨ setlE p l = 12 := by
  unfold setlE choE
  rw [if_neg (c := prbE p ≠ 0) (fun h => h hE), set_ok' h1 h2]
  simp only [ne_eq, not_true_eq_false, if_false]
  split
  · exact .inr rfl
  · exact .inl rfl
end Go.Proofs.Ytfmpiabmnjmobaa
