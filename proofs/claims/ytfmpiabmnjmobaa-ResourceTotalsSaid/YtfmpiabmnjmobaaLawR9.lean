/- Layer 28: the laws of Totals and of settling twice. -/
import Derived.Test.YtfmpiabmnjmobaaTot7
namespace Go.Proofs.Ytfmpiabmnjmobaa
open Go.RowKit

theorem setlP_sml {p : Prb} (h : Sml p) (l : List Int) : Sml (setlP p l) := by
  unfold setlP
  split
  · refine ⟨Nat.le_trans (setlI_len _ _) h.1, by show (totR p l).length ≤ 24; unfold totR; rw [List.length_map]; exact h.2.1, fun i hi => ?_⟩
    obtain ⟨x, hx, rfl⟩ := List.mem_map.1 (show i ∈ (p.it.filter fun i => !inB l i).map (restI l) from hi)
    have hg := h.2.2 x (List.mem_filter.1 hx).1
    exact ⟨hg.1, hg.2.1, Nat.le_trans (kept_le _ _) hg.2.2⟩
  · exact ⟨by simp, by simp, by simp⟩
theorem sml_few {p : Prb} (h : Sml p) : Few p := ⟨by have := h.2.1; omega, by have := h.1; omega, fun i hi => by have := h.2.2 i hi; omega⟩
set_option maxRecDepth 100000 in
theorem lawR9_p (p : Prb) (l : List Int) : PCalls Try.prog 9 [.d (prbD p), .d (.sl none (l.map intD))] (.raw (.bool true)) := by
  have hk := known_p
  have hs := small_p p
  by_cases hf : Sml p
  · rw [decide_eq_true hf] at hs
    by_cases hl : l.length ≤ 20
    · have hb := sml_B hf
      have h1000 : p.it.length ≤ 1000 := by have := hf.1; omega
      have c1 := own_p p hf
      have ct := totals_p p l hb (by omega) h1000
      have cs := settle_p p l hb (by omega) h1000
      have cc := refpcheck_p p (by have := hf.2.1; omega) (by have := hf.1; omega) (fun i hi => by have := hf.2.2 i hi; omega)
      have hsm := setlP_sml hf l
      by_cases hE : prbE p = 0
      · have rt := reftotals_p p l hE hb (by omega)
        have rs := refsettle_p p l hE hb (by omega)
        have hC : choE p l = setE (p.it.map Itm.id) l := if_neg (fun h => h hE)
        have hRl : (if setE (p.it.map Itm.id) l = 0 then totR p l else []).length ≤ 24 := by
          split
          · unfold totR; rw [List.length_map]; exact hf.2.1
          · simp
        rw [hC] at ct
        rw [hE] at cc
        obtain ⟨E, hEE⟩ : ∃ E, setE (p.it.map Itm.id) l = E := ⟨_, rfl⟩
        rw [hEE] at ct rt hRl
        obtain ⟨R, hR⟩ : ∃ R, (if E = 0 then totR p l else []) = R := ⟨_, rfl⟩
        rw [hR] at ct rt hRl
        obtain ⟨X, hX⟩ : ∃ X, setlP p l = X := ⟨_, rfl⟩
        rw [hX] at cs rs hsm
        have hsb : ∀ i ∈ X.it, i.po.length ≤ 10000 ∧ i.pa.length ≤ 10000 ∧ i.af.length ≤ 10000 := fun i hi => by have := hsm.2.2 i hi; omega
        refine a_enter Try.func9 rfl rfl Try.ntmps9 rfl rfl rfl fun F hF => ?_
        refine a_seq ?_
        refine a_region ?_
        refine Estep.go (st_box 1 rfl rfl rfl rfl rfl rfl rfl) ?_
        refine Pstep.go (st_assign rfl rfl) ?_
        refine o_nil ?_
        refine a_seq ?_
        refine a_seq ?_
        refine a_region ?_
        refine Pstep.go (st_callP (hk) rfl rfl) ?_
        refine Pstep.go (st_not rfl rfl) ?_
        refine Pstep.go (st_move rfl rfl) ?_
        refine o_setF 16 rfl (rfl) ?_
        refine o_run rfl rfl rfl ?_
        refine Pstep.go (st_loadPS rfl rfl rw67 rfl rfl rfl) ?_
        refine o_run rfl rfl rfl ?_
        refine Pstep.go (st_callP (hs) rfl rfl) ?_
        refine o_run rfl rfl rfl ?_
        refine Pstep.go (st_not rfl rfl) ?_
        refine Pstep.go (st_pickF rfl rfl rfl rfl) ?_
        refine Pstep.go (st_move rfl rfl) ?_
        refine o_setF 21 rfl (rfl) ?_
        refine o_run rfl rfl rfl ?_
        refine Pstep.go (st_move rfl rfl) ?_
        refine o_run rfl rfl rfl ?_
        refine Pstep.go (st_lenMap rfl Try.underlying24 rfl) ?_
        refine o_run rfl rfl rfl ?_
        refine Pstep.go (st_gtr rfl rfl rfl) ?_
        refine Pstep.go (st_pickF rfl rfl rfl rfl) ?_
        refine o_nil ?_
        refine a_false rfl ((decide_eq_false (by omega))) ?_
        refine a_skip ?_
        refine a_seq ?_
        refine a_region ?_
        refine Pstep.go (st_loadPS rfl rfl rw67 rfl rfl rfl) ?_
        refine Pstep.go (st_callP (c1) rfl rfl) ?_
        refine Pstep.go (st_move rfl rfl) ?_
        refine Pstep.go (st_callP (ct) rfl rfl) ?_
        refine Pstep.go (st_move rfl rfl) ?_
        refine Pstep.go (st_extractD rfl rfl rfl) ?_
        refine Pstep.go (st_extractD rfl rfl rfl) ?_
        refine Pstep.go (st_assign rfl rfl) ?_
        refine Pstep.go (st_assign rfl rfl) ?_
        refine o_nil ?_
        refine a_seq ?_
        refine a_region ?_
        refine Pstep.go (st_loadPS rfl rfl rw67 rfl rfl rfl) ?_
        refine Pstep.go (st_callP (c1) rfl rfl) ?_
        refine Pstep.go (st_move rfl rfl) ?_
        refine Pstep.go (st_callP (cs) rfl rfl) ?_
        refine Pstep.go (st_move rfl rfl) ?_
        refine Pstep.go (st_extractD rfl rfl rfl) ?_
        refine Pstep.go (st_extractD rfl rfl rfl) ?_
        refine Estep.go (st_alloc 2 zl72 rfl rfl rfl rfl) ?_
        refine Estep.go (st_storeP rfl rfl rfl rfl rfl rfl rfl sz72) ?_
        refine Pstep.go (st_assign rfl rfl) ?_
        refine o_nil ?_
        refine a_seq ?_
        refine a_seq ?_
        refine a_region ?_
        refine Pstep.go (st_loadPS rfl rfl rw67 rfl rfl rfl) ?_
        refine Pstep.go (st_callP (cc) rfl rfl) ?_
        refine Pstep.go (st_assign rfl rfl) ?_
        refine o_nil ?_
        refine a_seq ?_
        refine a_region ?_
        refine Pstep.go (st_move rfl rfl) ?_
        refine Pstep.go (st_neq rfl rfl rfl) ?_
        refine o_nil ?_
        refine a_false rfl ((by decide)) ?_
        refine a_skip ?_
        refine a_seq ?_
        refine a_region ?_
        refine Pstep.go (st_loadPS rfl rfl rw67 rfl rfl rfl) ?_
        refine Pstep.go (st_move rfl rfl) ?_
        refine Pstep.go (st_callP (rt) rfl rfl) ?_
        refine Pstep.go (st_move rfl rfl) ?_
        refine Pstep.go (st_extractD rfl rfl rfl) ?_
        refine Pstep.go (st_extractD rfl rfl rfl) ?_
        refine Pstep.go (st_assign rfl rfl) ?_
        refine Pstep.go (st_assign rfl rfl) ?_
        refine o_nil ?_
        refine a_seq ?_
        refine a_region ?_
        refine Pstep.go (st_loadPS rfl rfl rw67 rfl rfl rfl) ?_
        refine Pstep.go (st_move rfl rfl) ?_
        refine Pstep.go (st_callP (rs) rfl rfl) ?_
        refine Pstep.go (st_move rfl rfl) ?_
        refine Pstep.go (st_extractD rfl rfl rfl) ?_
        refine Pstep.go (st_extractD rfl rfl rfl) ?_
        refine Estep.go (st_alloc 3 zl67 rfl rfl rfl rfl) ?_
        refine Estep.go (st_storeP rfl rfl rfl rfl rfl rfl rfl sz67) ?_
        refine Pstep.go (st_assign rfl rfl) ?_
        refine o_nil ?_
        refine a_seq ?_
        refine a_drawn [[], [], [0, 1], [0, 1, 2], [0, 1, 2, 3], [0, 1, 2, 3, 4], [0, 1, 2, 3], [0, 1, 2, 3, 4, 5, 6], [0, 1, 2, 3, 4, 5, 6, 7], [0, 1, 2, 3, 4, 5, 6, 7, 8], [0, 1, 2, 3, 4, 5, 6, 7, 8, 9], [0, 1, 2, 3, 4, 5, 6, 7, 8, 9], [0, 1, 2, 3, 4, 5, 6, 7, 8, 9, 10, 11], [0, 1, 2, 3, 4, 5, 6, 7, 8, 9, 10, 11, 12], [0, 1, 2, 3, 4, 5, 6, 7, 8, 9, 10, 11, 12, 13], [0, 1, 2, 3, 4, 5, 6, 7, 8, 9, 10, 11, 12, 13, 14], [0, 1, 2, 3, 4, 5, 6, 7, 8, 9, 10, 11, 12, 13, 14, 15], [0, 1, 2, 3, 4, 5, 6, 7, 8, 9, 10, 11, 12, 13, 14], [0, 1, 2, 3, 4, 5, 6, 7, 8, 9, 10, 11, 12, 13, 14, 15, 16, 17], [0, 1, 2, 3, 4, 5, 6, 7, 8, 9, 10, 11, 12, 13, 14, 15, 16, 17, 18], [0, 1, 2, 3, 4, 5, 6, 7, 8, 9, 10, 11, 12, 13, 14, 15, 16, 17, 18, 19]] mixed rfl ?_
        refine dws ?_
        refine d_pure [6] [] rfl rfl (fun _ => gp_none (st_move rfl rfl)) ?_
        refine d_pure [11] [] rfl rfl (fun _ => gp_none (st_move rfl rfl)) ?_
        refine dwc 2 rfl rfl rfl ?_
        refine dw1 3 rfl rfl ?_
        refine Pstep.go (st_eql rfl rfl rfl) ?_
        refine o_nil ⟨rfl, ?_⟩
        refine dw1 4 rfl rfl ?_
        refine Pstep.go (st_move rfl rfl) ?_
        refine o_setT 78 rfl ((by simp)) ?_
        refine o_nil ⟨rfl, ?_⟩
        refine dws ?_
        refine d_pure [5, 78] [] rfl rfl (fun _ => gp_run rfl rfl rfl (st_move rfl rfl)) ?_
        refine d_pure [79, 78] [] rfl rfl (fun _ => gp_run rfl rfl rfl (st_callP (lawrooms_p R (by omega)) rfl rfl)) ?_
        refine d_pure [10, 78] [] rfl rfl (fun _ => gp_run rfl rfl rfl (st_move rfl rfl)) ?_
        refine dwc 7 rfl rfl rfl ?_
        refine dw1 8 rfl rfl ?_
        refine o_run rfl rfl rfl ?_
        refine Pstep.go (st_callP (samerooms_p R R (by omega)) rfl rfl) ?_
        refine o_nil ⟨rfl, ?_⟩
        refine dw1 9 rfl rfl ?_
        refine Pstep.go (st_pickT rfl rfl rfl rfl) ?_
        refine o_nil ⟨rfl, ?_⟩
        refine dw1 10 rfl rfl ?_
        refine Pstep.go (st_move rfl rfl) ?_
        refine o_setT 84 rfl ((by simp)) ?_
        refine o_nil ⟨rfl, ?_⟩
        refine dws ?_
        refine d_pure [8, 84] [] rfl rfl (fun _ => gp_run rfl rfl rfl (st_move rfl rfl)) ?_
        refine d_pure [13, 84] [] rfl rfl (fun _ => gp_run rfl rfl rfl (st_move rfl rfl)) ?_
        refine dwc 12 rfl rfl rfl ?_
        refine dw1 13 rfl rfl ?_
        refine o_run rfl rfl rfl ?_
        refine Pstep.go (st_eql rfl rfl rfl) ?_
        refine o_nil ⟨rfl, ?_⟩
        refine dw1 14 rfl rfl ?_
        refine Pstep.go (st_pickT rfl rfl rfl rfl) ?_
        refine o_nil ⟨rfl, ?_⟩
        refine dw1 15 rfl rfl ?_
        refine Pstep.go (st_move rfl rfl) ?_
        refine o_setT 89 rfl ((by simp)) ?_
        refine o_nil ⟨rfl, ?_⟩
        refine dws ?_
        refine d_pureA [7, 89] rfl rfl (fun _ => gp_run rfl rfl rfl (st_loadPS rfl rfl rw72 rfl rfl rfl)) ?_
        refine d_pure [90, 89] [] rfl rfl (fun _ => gp_run rfl rfl rfl (st_callP (back_p X (by have := hsm.2.1; omega) (by have := hsm.1; omega) hsb) rfl rfl)) ?_
        refine d_pureA [12, 89] rfl rfl (fun _ => gp_run rfl rfl rfl (st_loadPS rfl rfl rw67 rfl rfl rfl)) ?_
        refine dwc 18 rfl rfl rfl ?_
        refine dw1 19 rfl rfl ?_
        refine o_run rfl rfl rfl ?_
        refine Pstep.go (st_callP (same_p X X (sml_few hsm)) rfl rfl) ?_
        refine o_nil ⟨rfl, ?_⟩
        refine dw1 20 rfl rfl ?_
        refine Pstep.go (st_pickT rfl rfl rfl rfl) ?_
        refine o_nil ⟨rfl, ?_⟩
        refine dw1 21 rfl rfl ?_
        refine Pstep.go (st_assign rfl rfl) ?_
        refine o_nil ⟨rfl, ?_⟩
        refine dwe ?_
        refine a_ret ?_
        exact ⟨_, [], [], res_of rfl, rfl, rfl, by simp, rfl⟩
      · have hC : choE p l = prbE p := if_pos hE
        have hS : setlE p l = prbE p := by unfold setlE; rw [hC, if_pos hE]
        have hP : setlP p l = ⟨[], []⟩ := if_neg (by rw [hS]; exact hE)
        rw [hC, if_neg hE] at ct
        rw [hS, hP] at cs
        refine a_enter Try.func9 rfl rfl Try.ntmps9 rfl rfl rfl fun F hF => ?_
        refine a_seq ?_
        refine a_region ?_
        refine Estep.go (st_box 1 rfl rfl rfl rfl rfl rfl rfl) ?_
        refine Pstep.go (st_assign rfl rfl) ?_
        refine o_nil ?_
        refine a_seq ?_
        refine a_seq ?_
        refine a_region ?_
        refine Pstep.go (st_callP (hk) rfl rfl) ?_
        refine Pstep.go (st_not rfl rfl) ?_
        refine Pstep.go (st_move rfl rfl) ?_
        refine o_setF 16 rfl (rfl) ?_
        refine o_run rfl rfl rfl ?_
        refine Pstep.go (st_loadPS rfl rfl rw67 rfl rfl rfl) ?_
        refine o_run rfl rfl rfl ?_
        refine Pstep.go (st_callP (hs) rfl rfl) ?_
        refine o_run rfl rfl rfl ?_
        refine Pstep.go (st_not rfl rfl) ?_
        refine Pstep.go (st_pickF rfl rfl rfl rfl) ?_
        refine Pstep.go (st_move rfl rfl) ?_
        refine o_setF 21 rfl (rfl) ?_
        refine o_run rfl rfl rfl ?_
        refine Pstep.go (st_move rfl rfl) ?_
        refine o_run rfl rfl rfl ?_
        refine Pstep.go (st_lenMap rfl Try.underlying24 rfl) ?_
        refine o_run rfl rfl rfl ?_
        refine Pstep.go (st_gtr rfl rfl rfl) ?_
        refine Pstep.go (st_pickF rfl rfl rfl rfl) ?_
        refine o_nil ?_
        refine a_false rfl ((decide_eq_false (by omega))) ?_
        refine a_skip ?_
        refine a_seq ?_
        refine a_region ?_
        refine Pstep.go (st_loadPS rfl rfl rw67 rfl rfl rfl) ?_
        refine Pstep.go (st_callP (c1) rfl rfl) ?_
        refine Pstep.go (st_move rfl rfl) ?_
        refine Pstep.go (st_callP (ct) rfl rfl) ?_
        refine Pstep.go (st_move rfl rfl) ?_
        refine Pstep.go (st_extractD rfl rfl rfl) ?_
        refine Pstep.go (st_extractD rfl rfl rfl) ?_
        refine Pstep.go (st_assign rfl rfl) ?_
        refine Pstep.go (st_assign rfl rfl) ?_
        refine o_nil ?_
        refine a_seq ?_
        refine a_region ?_
        refine Pstep.go (st_loadPS rfl rfl rw67 rfl rfl rfl) ?_
        refine Pstep.go (st_callP (c1) rfl rfl) ?_
        refine Pstep.go (st_move rfl rfl) ?_
        refine Pstep.go (st_callP (cs) rfl rfl) ?_
        refine Pstep.go (st_move rfl rfl) ?_
        refine Pstep.go (st_extractD rfl rfl rfl) ?_
        refine Pstep.go (st_extractD rfl rfl rfl) ?_
        refine Estep.go (st_alloc 2 zl72 rfl rfl rfl rfl) ?_
        refine Estep.go (st_storeP rfl rfl rfl rfl rfl rfl rfl sz72) ?_
        refine Pstep.go (st_assign rfl rfl) ?_
        refine o_nil ?_
        refine a_seq ?_
        refine a_seq ?_
        refine a_region ?_
        refine Pstep.go (st_loadPS rfl rfl rw67 rfl rfl rfl) ?_
        refine Pstep.go (st_callP (cc) rfl rfl) ?_
        refine Pstep.go (st_assign rfl rfl) ?_
        refine o_nil ?_
        refine a_seq ?_
        refine a_region ?_
        refine Pstep.go (st_move rfl rfl) ?_
        refine Pstep.go (st_neq rfl rfl rfl) ?_
        refine o_nil ?_
        refine a_true rfl ((decide_eq_true hE)) ?_
        refine a_seq ?_
        refine a_region ?_
        refine Pstep.go (st_move rfl rfl) ?_
        refine Pstep.go (st_move rfl rfl) ?_
        refine Pstep.go (st_eql rfl rfl rfl) ?_
        refine Pstep.go (st_move rfl rfl) ?_
        refine o_setT 48 rfl ((by simp)) ?_
        refine o_run rfl rfl rfl ?_
        refine Pstep.go (st_move rfl rfl) ?_
        refine o_run rfl rfl rfl ?_
        refine Pstep.go (st_move rfl rfl) ?_
        refine o_run rfl rfl rfl ?_
        refine Pstep.go (st_eql rfl rfl rfl) ?_
        refine Pstep.go (st_pickT rfl rfl rfl rfl) ?_
        refine Pstep.go (st_move rfl rfl) ?_
        refine o_setT 53 rfl ((by simp)) ?_
        refine o_run rfl rfl rfl ?_
        refine Pstep.go (st_move rfl rfl) ?_
        refine o_run rfl rfl rfl ?_
        refine Pstep.go (st_lenMap rfl Try.underlying69 rfl) ?_
        refine o_run rfl rfl rfl ?_
        refine Pstep.go (st_eql rfl rfl rfl) ?_
        refine Pstep.go (st_pickT rfl rfl rfl rfl) ?_
        refine Pstep.go (st_move rfl rfl) ?_
        refine o_setT 58 rfl ((by simp)) ?_
        refine o_run rfl rfl rfl ?_
        refine Pstep.go (st_loadPS rfl rfl rw72 rfl rfl rfl) ?_
        refine o_run rfl rfl rfl ?_
        refine Pstep.go (st_build zl72 pl72 rfl rfl rfl) ?_
        refine o_weakD 60 (prbD ⟨[], []⟩) rfl prb0_weak ?_
        refine o_run rfl rfl rfl ?_
        refine Pstep.go (st_callP (equalP_p ⟨[], []⟩ ⟨[], []⟩ ⟨by simp, by simp, by simp⟩) rfl rfl) ?_
        refine Pstep.go (st_pickT rfl rfl rfl rfl) ?_
        refine Pstep.go (st_assign rfl rfl) ?_
        refine o_nil ?_
        refine a_ret ?_
        exact ⟨_, [], [], res_of rfl, rfl, rfl, by simp, rfl⟩
    · have hl20 : 20 < l.length := by omega
      refine a_enter Try.func9 rfl rfl Try.ntmps9 rfl rfl rfl fun F hF => ?_
      refine a_seq ?_
      refine a_region ?_
      refine Estep.go (st_box 1 rfl rfl rfl rfl rfl rfl rfl) ?_
      refine Pstep.go (st_assign rfl rfl) ?_
      refine o_nil ?_
      refine a_seq ?_
      refine a_seq ?_
      refine a_region ?_
      refine Pstep.go (st_callP (hk) rfl rfl) ?_
      refine Pstep.go (st_not rfl rfl) ?_
      refine Pstep.go (st_move rfl rfl) ?_
      refine o_setF 16 rfl (rfl) ?_
      refine o_run rfl rfl rfl ?_
      refine Pstep.go (st_loadPS rfl rfl rw67 rfl rfl rfl) ?_
      refine o_run rfl rfl rfl ?_
      refine Pstep.go (st_callP (hs) rfl rfl) ?_
      refine o_run rfl rfl rfl ?_
      refine Pstep.go (st_not rfl rfl) ?_
      refine Pstep.go (st_pickF rfl rfl rfl rfl) ?_
      refine Pstep.go (st_move rfl rfl) ?_
      refine o_setF 21 rfl (rfl) ?_
      refine o_run rfl rfl rfl ?_
      refine Pstep.go (st_move rfl rfl) ?_
      refine o_run rfl rfl rfl ?_
      refine Pstep.go (st_lenMap rfl Try.underlying24 rfl) ?_
      refine o_run rfl rfl rfl ?_
      refine Pstep.go (st_gtr rfl rfl rfl) ?_
      refine Pstep.go (st_pickF rfl rfl rfl rfl) ?_
      refine o_nil ?_
      refine a_true rfl ((decide_eq_true (by omega))) ?_
      refine a_seq ?_
      refine a_region ?_
      refine Pstep.go (st_callP (hk) rfl rfl) ?_
      refine Pstep.go (st_assign rfl rfl) ?_
      refine o_nil ?_
      refine a_ret ?_
      exact ⟨_, [], [], res_of rfl, rfl, rfl, rfl, rfl⟩
  · rw [decide_eq_false hf] at hs
    refine a_enter Try.func9 rfl rfl Try.ntmps9 rfl rfl rfl fun F hF => ?_
    refine a_seq ?_
    refine a_region ?_
    refine Estep.go (st_box 1 rfl rfl rfl rfl rfl rfl rfl) ?_
    refine Pstep.go (st_assign rfl rfl) ?_
    refine o_nil ?_
    refine a_seq ?_
    refine a_seq ?_
    refine a_region ?_
    refine Pstep.go (st_callP (hk) rfl rfl) ?_
    refine Pstep.go (st_not rfl rfl) ?_
    refine Pstep.go (st_move rfl rfl) ?_
    refine o_setF 16 rfl (rfl) ?_
    refine o_run rfl rfl rfl ?_
    refine Pstep.go (st_loadPS rfl rfl rw67 rfl rfl rfl) ?_
    refine o_run rfl rfl rfl ?_
    refine Pstep.go (st_callP (hs) rfl rfl) ?_
    refine o_run rfl rfl rfl ?_
    refine Pstep.go (st_not rfl rfl) ?_
    refine Pstep.go (st_pickF rfl rfl rfl rfl) ?_
    refine Pstep.go (st_move rfl rfl) ?_
    refine o_setT 21 rfl (rfl) ?_
    refine o_pass rfl rfl rfl rfl ?_
    refine o_pass rfl rfl rfl rfl ?_
    refine o_pass rfl rfl rfl rfl ?_
    refine Pstep.go (st_pickT rfl rfl rfl rfl) ?_
    refine o_nil ?_
    refine a_true rfl rfl ?_
    refine a_seq ?_
    refine a_region ?_
    refine Pstep.go (st_callP (hk) rfl rfl) ?_
    refine Pstep.go (st_assign rfl rfl) ?_
    refine o_nil ?_
    refine a_ret ?_
    exact ⟨_, [], [], res_of rfl, rfl, rfl, rfl, rfl⟩
end Go.Proofs.Ytfmpiabmnjmobaa
