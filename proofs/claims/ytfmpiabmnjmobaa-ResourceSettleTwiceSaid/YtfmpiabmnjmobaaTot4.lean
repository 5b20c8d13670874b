/- Layer 28: Settle, continued. -/
import Derived.Test.YtfmpiabmnjmobaaTot3
namespace Go.Proofs.Ytfmpiabmnjmobaa
open Go.RowKit

set_option maxRecDepth 100000 in
theorem cloneI_c (l : List Int) (hl : l.length ≤ 1000000) : ACalls Try.prog 100 [.d (.sl none (l.map intD))] [] fun r H' => r = .own 20 0 l.length ∧ H' = [(20, [.rowD 3 1 (l.map intD)])] := by
  refine a_enter Try.func100 rfl rfl Try.ntmps100 rfl rfl rfl fun F hF => ?_
  refine a_seq ?_
  refine a_region ?_
  refine Pstep.go (st_assign rfl rfl) ?_
  skip
  refine o_nil ?_
  refine a_seq ?_
  refine a_seq ?_
  refine a_region ?_
  refine Pstep.go (st_move rfl rfl) ?_
  refine o_nilSplit 3 rfl (fun h0 => ?_) ?_
  · refine Pstep.go (st_eqlN Try.underlying24 rfl rfl) ?_
    refine o_nil ?_
    refine a_true rfl (rfl) ?_
    refine a_seq ?_
    refine a_region ?_
    refine Pstep.go (st_assign rfl rfl) ?_
    refine o_adopt 2 20 sl24 rfl rfl rfl rfl ?_
    refine o_nil ?_
    refine a_ret ?_
    exact ⟨_, [20], _, res_of rfl, rfl, rfl, by rw [← List.length_map (f := intD), h0]; rfl, by rw [h0]⟩
  · refine Pstep.go (st_eqlN Try.underlying24 rfl rfl) ?_
    refine o_nil ?_
    refine a_false rfl (rfl) ?_
    refine a_skip ?_
    refine a_seq ?_
    refine a_region ?_
    refine Estep.go (st_buildSlice 20 sl24 rfl rfl rfl rfl rfl rfl rfl rfl) ?_
    refine Pstep.go (st_move rfl rfl) ?_
    refine Estep.go (st_appMD (([] : List Int)) (l) rfl rfl rfl rfl rfl rfl (fun _ => rfl) sl24 (by simp only [List.length_nil]; omega) rfl rfl rfl rfl) ?_
    refine Pstep.go (st_assign rfl rfl) ?_
    skip
    refine o_nil ?_
    refine a_ret ?_
    exact ⟨_, [20], _, res_of rfl, rfl, rfl, by simp, by simp⟩
set_option maxRecDepth 100000 in
theorem clone_c (i : Itm) (g1 : i.po.length ≤ 1000000) (g2 : i.pa.length ≤ 1000000) (g3 : i.af.length ≤ 1000000) : ACalls Try.prog 75 [.d (itmD i)] [] fun r H' => r = .agg [.d (intD i.id), .d (intD i.pr), .d (intD i.sq), .d (.sl none (i.po.map postD)), .d (.sl none (i.pa.map payD)), .own 20 0 i.af.length] ∧ H' = [(20, [.rowD 3 1 (i.af.map intD)])] := by
  refine a_enter Try.func75 rfl rfl Try.ntmps75 rfl rfl rfl fun F hF => ?_
  refine a_seq ?_
  refine a_region ?_
  refine Estep.go (st_box 1 rfl rfl rfl rfl rfl rfl rfl) ?_
  refine Estep.go (st_alloc 2 zl33 rfl rfl rfl rfl) ?_
  refine o_nil ?_
  refine a_seq ?_
  refine a_drawn [[], [0], [0, 1], [], [3], [0, 1, 2, 3, 4], [], [6], [0, 1, 2, 3, 4, 5, 6, 7], [0, 1, 2, 3, 4, 6, 7], [0, 1, 2, 3, 4, 5, 6, 7, 8, 9], [0, 1, 2, 3, 4, 5, 6, 7, 8, 9, 10], [0, 1, 2, 3, 4, 5, 6, 7, 8, 9, 10, 11], [0, 1, 2, 3, 4, 5, 6, 7, 8, 9, 10, 11, 12], [0, 1, 2, 3, 4, 5, 6, 7, 8, 9, 10, 11, 12, 13]] mixed rfl ?_
  refine dws ?_
  refine d_pure [1] [] rfl rfl (fun _ => gp_none (st_fieldP rfl fi33_3 rfl rfl rfl)) ?_
  refine d_pure [3] [1] rfl rfl (fun _ => gp_none (st_loadP rfl rfl rfl on30 rfl)) ?_
  refine d_pure [4] [] rfl rfl (fun _ => gp_none (st_callP (cloneP_p i.po g1) rfl rfl)) ?_
  refine d_pure [1] [] rfl rfl (fun _ => gp_none (st_fieldP rfl fi33_4 rfl rfl rfl)) ?_
  refine d_pure [6] [1] rfl rfl (fun _ => gp_none (st_loadP rfl rfl rfl on31 rfl)) ?_
  refine d_pure [7] [] rfl rfl (fun _ => gp_none (st_callP (cloneY_p i.pa g2) rfl rfl)) ?_
  refine d_pure [1] [] rfl rfl (fun _ => gp_none (st_fieldP rfl fi33_5 rfl rfl rfl)) ?_
  refine d_pure [9] [1] rfl rfl (fun _ => gp_none (st_loadP rfl rfl rfl on24 rfl)) ?_
  refine d_eff [10] [20] [(11, _)] rfl rfl (fun _ => ge_none (st_callD (cloneI_c i.af g3) rfl [20] ⟨rfl, trivial⟩ rfl rfl rfl rfl rfl rfl rfl rfl rfl)) (.inr ⟨11, _, rfl, rfl, rfl, rfl, rfl⟩) rfl rfl rfl rfl rfl ?_
  refine d_pure [1] [] rfl rfl (fun _ => gp_none (st_fieldP rfl fi33_3 rfl rfl rfl)) ?_
  refine dwc 10 rfl rfl rfl ?_
  refine dw1 11 rfl rfl ?_
  refine Estep.go (st_storeP rfl rfl rfl rfl rfl rfl rfl sz30) ?_
  refine o_nil ⟨rfl, ?_⟩
  refine dw1 12 rfl rfl ?_
  refine Pstep.go (st_fieldP rfl fi33_4 rfl rfl rfl) ?_
  refine o_nil ⟨rfl, ?_⟩
  refine dw1 13 rfl rfl ?_
  refine Estep.go (st_storeP rfl rfl rfl rfl rfl rfl rfl sz31) ?_
  refine o_nil ⟨rfl, ?_⟩
  refine dw1 14 rfl rfl ?_
  refine Pstep.go (st_fieldP rfl fi33_5 rfl rfl rfl) ?_
  refine o_nil ⟨rfl, ?_⟩
  refine dw1 15 rfl rfl ?_
  refine Estep.go (st_storeP rfl rfl rfl rfl rfl rfl rfl sz24) ?_
  refine o_nil ⟨rfl, ?_⟩
  refine dwe ?_
  refine a_seq ?_
  refine a_region ?_
  refine Pstep.go (st_loadPS rfl rfl rw33 rfl rfl rfl) ?_
  refine Estep.go (st_storeP rfl rfl rfl rfl rfl rfl rfl sz33) ?_
  refine o_nil ?_
  refine a_ret ?_
  exact ⟨_, [20], _, res_of rfl, rfl, rfl, rfl, rfl⟩
def outR (x : Roo) : Bool := !decide (-4000000000000000 ≤ x.n ∧ x.n ≤ 4000000000000000)
abbrev fnR : AV := .d (.raw (.func (.func 78) #[] #[]))
set_option maxRecDepth 100000 in
theorem settle1_p (x : Roo) : PCalls Try.prog 78 [.d (rooD x)] (boolD (outR x)) := by
  refine a_enter Try.func78 rfl rfl Try.ntmps78 rfl rfl rfl fun F hF => ?_
  refine a_seq ?_
  refine a_region ?_
  refine Estep.go (st_box 1 rfl rfl rfl rfl rfl rfl rfl) ?_
  refine Pstep.go (st_assign rfl rfl) ?_
  refine o_nil ?_
  refine a_seq ?_
  refine a_region ?_
  refine Pstep.go (st_fieldP rfl fi124_1 rfl rfl rfl) ?_
  refine Pstep.go (st_loadP rfl rfl rfl on2 rfl) ?_
  refine Pstep.go (st_callP (within64_p x.n (-4000000000000000) 4000000000000000) rfl rfl) ?_
  refine Pstep.go (st_notP rfl rfl) ?_
  refine Pstep.go (st_assign rfl rfl) ?_
  refine o_nil ?_
  refine a_ret ?_
  exact ⟨_, [], [], res_of rfl, rfl, rfl, retB3 (by unfold outR; exact decide_not), rfl⟩
def ixR (l : List Roo) : Int := match l.findIdx? outR with
  | some k => (k : Int)
  | none => -1
theorem ixR_nn {l : List Roo} : 0 ≤ ixR l ↔ l.any outR = true := by
  unfold ixR
  have h : (l.findIdx? outR).isSome = l.any outR := List.findIdx?_isSome
  cases hh : l.findIdx? outR with
  | none => rw [hh] at h; simp only [Option.isSome_none] at h; simp [← h]
  | some k => rw [hh] at h; simp only [Option.isSome_some] at h; simp [← h]
set_option maxRecDepth 100000 in
theorem indexR_p (l : List Roo) (hl : l.length ≤ 100000000) : PCalls Try.prog 101 [.d (.sl none (l.map rooD)), fnR] (intD (ixR l)) := by
  refine a_enter Try.func101 rfl rfl Try.ntmps101 rfl rfl rfl fun F hF => ?_
  refine a_seq ?_
  refine a_region ?_
  refine Pstep.go (st_assign rfl rfl) ?_
  refine o_nil ?_
  refine a_seq ?_
  refine a_seq ?_
  refine a_region ?_
  refine Pstep.go (st_move rfl rfl) ?_
  refine Pstep.go (st_lenMap rfl Try.underlying69 rfl) ?_
  refine Pstep.go (st_move rfl rfl) ?_
  refine o_nil ?_
  refine a_block ?_
  refine a_loop (α := Nat) (fun k => ⟨19, [(0, .d (.sl none (l.map rooD))), (1, fnR), (7, (.d (intD (l.length : Int)))), (8, (.d (intD (k : Int))))], []⟩) (fun k => k ≤ l.length ∧ ∀ x ∈ l.take k, outR x = false) (fun k => l.length - k) (0) (⟨Nat.zero_le _, by simp⟩) (le_of_has ⟨rfl, rfl, rfl, rfl, trivial⟩) ?_
  rintro k ⟨hk0, hk⟩
  refine a_seq ?_
  refine a_region ?_
  refine Pstep.go (st_lss rfl rfl rfl) ?_
  refine o_nil ?_
  refine a_seq ?_
  refine a_if rfl (fun h9 => ?_) (fun h9 => ?_)
  · have hk1 : k < l.length := lt_cast h9
    refine a_skip ?_
    refine a_seq ?_
    refine a_block ?_
    refine a_seq ?_
    refine a_region ?_
    refine Pstep.go (st_move rfl rfl) ?_
    refine Pstep.go (st_assign rfl rfl) ?_
    refine o_nil ?_
    refine a_seq ?_
    refine a_region ?_
    refine Pstep.go (st_move rfl rfl) ?_
    refine Pstep.go (st_move rfl rfl) ?_
    refine Pstep.go (st_move rfl rfl) ?_
    refine Pstep.go (st_indexD (k) rfl rfl (rfl) (getm hk1) Try.underlying69 rfl sz124 rfl) ?_
    refine Pstep.go (st_loadDS rfl rfl rw124 rfl) ?_
    refine Pstep.go (st_callVP (settle1_p l[k]) rfl rfl) ?_
    refine o_nil ?_
    refine a_cond rfl (fun h16 => ?_) (fun h16 => ?_)
    · refine a_seq ?_
      refine a_region ?_
      refine Pstep.go (st_move rfl rfl) ?_
      refine Pstep.go (st_assign rfl rfl) ?_
      refine o_nil ?_
      refine a_ret ?_
      exact ⟨_, [], [], res_of rfl, rfl, rfl, retI (by unfold ixR; rw [fidx_at hk1 hk (by simpa using h16)]), rfl⟩
    · refine a_skip ?_
      refine a_region ?_
      refine Pstep.go (st_add rfl rfl (wrapS (k + 1) (by omega)) rfl) ?_
      refine Pstep.go (st_move rfl rfl) ?_
      refine o_nil ?_
      exact ⟨k + 1, ⟨by show k + 1 ≤ _; omega, by rw [List.take_succ_eq_append_getElem hk1]; intro x hx; rcases List.mem_append.1 hx with hx | hx; exact hk x hx; rw [List.mem_singleton.1 hx]; simpa using h16⟩, by show l.length - (k + 1) < l.length - k; omega, ⟨rfl, rfl, fun _ _ => Has.get (l := [(0, _), (1, _), (7, _), (8, _)]) ⟨rfl, rfl, rfl, rfl, trivial⟩⟩⟩
  · refine a_exit ?_
    refine a_seq ?_
    refine a_region ?_
    refine Pstep.go (st_assign rfl rfl) ?_
    refine o_nil ?_
    refine a_ret ?_
    exact ⟨_, [], [], res_of rfl, rfl, rfl, retI (by unfold ixR; rw [fidx_no (fun x hx => hk x (by rw [List.take_of_length_le (by have h := h9; omega)]; exact hx))]), rfl⟩
set_option maxRecDepth 100000 in
theorem containsR_p (l : List Roo) (hl : l.length ≤ 100000000) : PCalls Try.prog 77 [.d (.sl none (l.map rooD)), fnR] (boolD (l.any outR)) := by
  refine a_enter Try.func77 rfl rfl Try.ntmps77 rfl rfl rfl fun F hF => ?_
  refine a_seq ?_
  refine a_region ?_
  refine Pstep.go (st_assign rfl rfl) ?_
  refine o_nil ?_
  refine a_seq ?_
  refine a_region ?_
  refine Pstep.go (st_move rfl rfl) ?_
  refine Pstep.go (st_move rfl rfl) ?_
  refine Pstep.go (st_callP (indexR_p l hl) rfl rfl) ?_
  refine Pstep.go (st_geq rfl rfl rfl) ?_
  refine Pstep.go (st_assign rfl rfl) ?_
  refine o_nil ?_
  refine a_ret ?_
  exact ⟨_, [], [], res_of rfl, rfl, rfl, retB3 (by rw [Bool.eq_iff_iff, decide_eq_true_eq]; exact ixR_nn), rfl⟩
def restI (l : List Int) (i : Itm) : Itm := ⟨i.id, i.pr, i.sq, i.po, i.pa, kept l i.af⟩
def setlE (p : Prb) (l : List Int) : Int := if choE p l ≠ 0 then choE p l else if (totR p l).any outR then 12 else 0
def setlI (l : List Int) (its : List Itm) : List Itm := (its.filter fun i => !inB l i).map (restI l)
def setlP (p : Prb) (l : List Int) : Prb := if setlE p l = 0 then ⟨totR p l, setlI l p.it⟩ else ⟨[], []⟩
theorem prb0_weak : ∀ w O v, RepD w O (.agg [.sl (some true) [], .sl (some true) []]) v → RepD w O (prbD ⟨[], []⟩) v := fun w O v h => h.aggMono rfl (by simp [D.one]) fun i c c' hc hc' v hv => by
  match i, hc, hc' with
  | 0, hc, hc' => injection hc with hc; injection hc' with hc'; subst hc hc'; exact hv.anyNil
  | 1, hc, hc' => injection hc with hc; injection hc' with hc'; subst hc hc'; exact hv.anyNil
theorem setlI_snoc_in {l : List Int} {its : List Itm} {k : Nat} (hk : k < its.length) (h : its[k].id ∈ l) : setlI l (its.take (k + 1)) = setlI l (its.take k) := by
  unfold setlI; rw [flt_snoc hk, if_neg (by unfold inB; simp [h]), List.append_nil]
theorem setlI_snoc_out {l : List Int} {its : List Itm} {k : Nat} (hk : k < its.length) (h : its[k].id ∉ l) : setlI l (its.take (k + 1)) = setlI l (its.take k) ++ [restI l its[k]] := by
  unfold setlI; rw [flt_snoc hk, if_pos (by unfold inB; simp [h]), List.map_append]; rfl
theorem setlI_len (l : List Int) (its : List Itm) : (setlI l its).length ≤ its.length := by unfold setlI; rw [List.length_map]; exact List.length_filter_le _ _
set_option maxRecDepth 100000 in
theorem settle_p (p : Prb) (l : List Int) (hb : PrbB p) (hl : l.length ≤ 100000) (h1000 : p.it.length ≤ 1000) : PCalls Try.prog 42 [.d (prbD p), .d (.sl none (l.map intD))] (.tup [prbD (setlP p l), intD (setlE p l)]) := by
  have ht := totals_p p l hb hl h1000
  have hb3 := hb.2.2
  by_cases hE : choE p l = 0
  · have hrl : (totR p l).length ≤ 100000 := by unfold totR; rw [List.length_map]; exact hb.1
    have hcr := containsR_p (totR p l) (by omega)
    rw [if_pos hE, hE] at ht
    by_cases hO : (totR p l).any outR = true
    · have hS : setlE p l = 12 := by unfold setlE; rw [if_neg (by simpa using hE), if_pos hO]
      have hP : setlP p l = ⟨[], []⟩ := if_neg (by rw [hS]; decide)
      rw [hS, hP]
      rw [hO] at hcr
      refine a_enter Try.func42 rfl rfl Try.ntmps42 rfl rfl rfl fun F hF => ?_
      refine a_seq ?_
      refine a_region ?_
      refine Estep.go (st_box 1 rfl rfl rfl rfl rfl rfl rfl) ?_
      refine Estep.go (st_box 2 rfl rfl rfl rfl rfl rfl rfl) ?_
      refine Estep.go (st_alloc 3 zl72 rfl rfl rfl rfl) ?_
      refine Pstep.go (st_assign rfl rfl) ?_
      refine o_nil ?_
      refine a_seq ?_
      refine a_region ?_
      refine Pstep.go (st_loadPS rfl rfl rw72 rfl rfl rfl) ?_
      refine Pstep.go (st_loadP rfl rfl rfl on24 rfl) ?_
      refine Pstep.go (st_callP (ht) rfl rfl) ?_
      refine Pstep.go (st_move rfl rfl) ?_
      refine Pstep.go (st_extractD rfl rfl rfl) ?_
      refine Pstep.go (st_extractD rfl rfl rfl) ?_
      refine Pstep.go (st_assign rfl rfl) ?_
      refine Pstep.go (st_assign rfl rfl) ?_
      refine o_nil ?_
      refine a_seq ?_
      refine a_seq ?_
      refine a_region ?_
      refine Pstep.go (st_move rfl rfl) ?_
      refine Pstep.go (st_neq rfl rfl rfl) ?_
      refine o_nil ?_
      refine a_false rfl ((by decide)) ?_
      refine a_skip ?_
      refine a_seq ?_
      refine a_seq ?_
      refine a_region ?_
      refine Pstep.go (st_move rfl rfl) ?_
      refine Pstep.go (st_callP (hcr) rfl rfl) ?_
      refine o_nil ?_
      refine a_true rfl (rfl) ?_
      refine a_seq ?_
      refine a_region ?_
      refine Pstep.go (st_build zl72 pl72 rfl rfl rfl) ?_
      refine o_weakD 24 (prbD ⟨[], []⟩) rfl prb0_weak ?_
      refine Estep.go (st_storeP rfl rfl rfl rfl rfl rfl rfl sz72) ?_
      refine Pstep.go (st_assign rfl rfl) ?_
      refine o_nil ?_
      refine a_ret ?_
      exact ⟨_, [], [], res_of rfl, rfl, rfl, rfl, rfl⟩
    · have hS : setlE p l = 0 := by unfold setlE; rw [if_neg (by simpa using hE), if_neg hO]
      have hP : setlP p l = ⟨totR p l, setlI l p.it⟩ := if_pos hS
      have hO : (totR p l).any outR = false := by simpa using hO
      rw [hS, hP]
      rw [hO] at hcr
      obtain ⟨R, hR⟩ : ∃ R, totR p l = R := ⟨_, rfl⟩
      rw [hR] at ht hcr ⊢
      refine a_enter Try.func42 rfl rfl Try.ntmps42 rfl rfl rfl fun F hF => ?_
      refine a_seq ?_
      refine a_region ?_
      refine Estep.go (st_box 1 rfl rfl rfl rfl rfl rfl rfl) ?_
      refine Estep.go (st_box 2 rfl rfl rfl rfl rfl rfl rfl) ?_
      refine Estep.go (st_alloc 3 zl72 rfl rfl rfl rfl) ?_
      refine Pstep.go (st_assign rfl rfl) ?_
      refine o_nil ?_
      refine a_seq ?_
      refine a_region ?_
      refine o_freezeB 3 2 (.sl none (l.map intD)) [1, 3] hF rfl rfl rfl (by intro c hc; simp [D.cells] at hc; subst hc; rfl) rfl rfl rfl ?_
      refine Pstep.go (st_loadPS rfl rfl rw72 rfl rfl rfl) ?_
      refine Pstep.go (st_loadD1 rfl rfl on24 rfl) ?_
      refine Pstep.go (st_callP (ht) rfl rfl) ?_
      refine Pstep.go (st_move rfl rfl) ?_
      refine Pstep.go (st_extractD rfl rfl rfl) ?_
      refine Pstep.go (st_extractD rfl rfl rfl) ?_
      refine Pstep.go (st_assign rfl rfl) ?_
      refine Pstep.go (st_assign rfl rfl) ?_
      refine o_nil ?_
      refine a_seq ?_
      refine a_seq ?_
      refine a_region ?_
      refine Pstep.go (st_move rfl rfl) ?_
      refine Pstep.go (st_neq rfl rfl rfl) ?_
      refine o_nil ?_
      refine a_false rfl ((by decide)) ?_
      refine a_skip ?_
      refine a_seq ?_
      refine a_seq ?_
      refine a_region ?_
      refine Pstep.go (st_move rfl rfl) ?_
      refine Pstep.go (st_callP (hcr) rfl rfl) ?_
      refine o_nil ?_
      refine a_false rfl (rfl) ?_
      refine a_skip ?_
      refine a_seq ?_
      refine a_region ?_
      refine Pstep.go (st_move rfl rfl) ?_
      refine Pstep.go (st_build zl72 pl72 rfl rfl rfl) ?_
      refine Estep.go (st_alloc 4 zl72 rfl rfl rfl rfl) ?_
      refine Estep.go (st_storeP rfl rfl rfl rfl rfl rfl rfl sz72) ?_
      refine o_nil ?_
      refine a_seq ?_
      refine a_seq ?_
      refine a_adoptC 4 0 1 902 sl70 rfl rfl rfl rfl rfl rfl rfl ?_
      refine a_region ?_
      refine Pstep.go (st_fieldP rfl fi72_1 rfl rfl rfl) ?_
      refine Pstep.go (st_loadP rfl rfl rfl on70 rfl) ?_
      refine Pstep.go (st_lenMap rfl Try.underlying70 rfl) ?_
      refine Pstep.go (st_move rfl rfl) ?_
      refine o_nil ?_
      refine a_block ?_
      refine a_loopP (α := Nat × List Itm) (fun q => ⟨53, [(3, (.d (.ptr (.sl none (l.map intD))))), (4, (.ptr 3 0 0)), (8, (.ptr 4 0 0)), (28, (.d (.sl none (p.it.map itmD)))), (29, (.d (intD (p.it.length : Int)))), (30, (.d (intD (q.1 : Int))))], [(902, [.rowD 33 6 (q.2.map itmD)]), (3, [.blk 72 [nilC, nilC]]), (4, [.blk 72 [.d (.sl none (R.map rooD)), .own 902 0 q.2.length]])]⟩) (fun q => q.1 ≤ p.it.length ∧ q.2 = setlI l (p.it.take q.1)) (fun q => p.it.length - q.1) ((0, [])) (⟨Nat.zero_le _, rfl⟩) (lep_of hF [902, 3, 4] rfl rfl ⟨rfl, rfl, rfl, rfl, rfl, rfl, trivial⟩) ?_
      rintro ⟨k, acc⟩ ⟨hk0, hA⟩
      dsimp only at hk0 hA ⊢
      refine a_seq ?_
      refine a_region ?_
      refine Pstep.go (st_lss rfl rfl rfl) ?_
      refine o_nil ?_
      refine a_seq ?_
      refine a_if rfl (fun h31 => ?_) (fun h31 => ?_)
      · have hk1 : k < p.it.length := lt_cast h31
        refine a_skip ?_
        refine a_seq ?_
        refine a_block ?_
        refine a_seq ?_
        refine a_region ?_
        have hgi := hb3 _ (List.getElem_mem hk1)
        have hal : acc.length ≤ 1000 := by rw [hA]; exact Nat.le_trans (setlI_len _ _) (by rw [List.length_take]; omega)
        refine Pstep.go (st_indexD (k) rfl rfl (rfl) (getm hk1) Try.underlying70 rfl sz33 rfl) ?_
        refine Pstep.go (st_loadDS rfl rfl rw33 rfl) ?_
        refine Estep.go (st_alloc 5 zl33 rfl rfl rfl rfl) ?_
        refine Estep.go (st_storeP rfl rfl rfl rfl rfl rfl rfl sz33) ?_
        refine o_nil ?_
        refine a_seq ?_
        refine a_seq ?_
        refine a_region ?_
        refine Pstep.go (st_loadD1 rfl rfl on24 rfl) ?_
        refine Pstep.go (st_fieldP rfl fi33_0 rfl rfl rfl) ?_
        refine Pstep.go (st_loadP rfl rfl rfl on3 rfl) ?_
        refine Pstep.go (st_callP (contains_p l p.it[k].id (by omega)) rfl rfl) ?_
        refine o_nil ?_
        refine a_if rfl (fun h37 => ?_) (fun h37 => ?_)
        · refine a_exit ?_
          refine a_region ?_
          refine Pstep.go (st_add rfl rfl (wrapS (k + 1) (by omega)) rfl) ?_
          refine Pstep.go (st_move rfl rfl) ?_
          refine o_nil ?_
          exact ⟨(k + 1, acc), ⟨by show k + 1 ≤ _; omega, by show acc = setlI l (p.it.take (k + 1)); rw [setlI_snoc_in hk1 h37]; exact hA⟩, by show p.it.length - (k + 1) < p.it.length - k; omega, lep_of hF [902, 3, 4] rfl (rfl) ⟨rfl, rfl, rfl, rfl, rfl, rfl, trivial⟩⟩
        · refine a_skip ?_
          refine a_seq ?_
          refine a_region ?_
          refine Pstep.go (st_loadPS rfl rfl rw33 rfl rfl rfl) ?_
          refine Estep.go (st_callD ((clone_c p.it[k] (by omega) (by omega) (by omega)).by [(20, 60)] rfl) rfl [60] ⟨rfl, trivial⟩ rfl rfl rfl rfl rfl rfl rfl rfl rfl) ?_
          refine Estep.go (st_alloc 6 zl33 rfl rfl rfl rfl) ?_
          refine Estep.go (st_storeP rfl rfl rfl rfl rfl rfl rfl sz33) ?_
          refine o_nil ?_
          refine a_seq ?_
          refine a_region ?_
          refine Pstep.go (st_fieldP rfl fi33_5 rfl rfl rfl) ?_
          refine Pstep.go (st_loadP rfl rfl rfl on24 rfl) ?_
          refine Pstep.go (st_makeFunc rfl rfl) ?_
          refine Estep.go (st_callD ((delI_c l p.it[k].af hl (by omega)).by [(930, 60)] rfl) rfl [60] ⟨rfl, trivial⟩ rfl rfl rfl rfl rfl rfl rfl rfl rfl) ?_
          refine Pstep.go (st_fieldP rfl fi33_5 rfl rfl rfl) ?_
          refine Estep.go (st_storeP rfl rfl rfl rfl rfl rfl rfl sz24) ?_
          refine o_nil ?_
          refine a_freezeC (ys := (kept l p.it[k].af).map intD) 6 0 5 60 rfl rfl rfl (by simp) (by rw [List.map_append, List.take_append_of_le_length (by simp), List.take_of_length_le (by simp)]) rfl rfl rfl rfl rfl rfl ?_
          refine a_region ?_
          refine Pstep.go (st_fieldP rfl fi72_1 rfl rfl rfl) ?_
          refine Pstep.go (st_loadP rfl rfl rfl on70 rfl) ?_
          refine Pstep.go (st_loadPS rfl rfl rw33 rfl rfl rfl) ?_
          refine Estep.go (st_buildSlice 7 sl70 rfl rfl rfl rfl rfl rfl rfl rfl) ?_
          refine Estep.go (st_appM (acc) ([restI l p.it[k]]) rfl rfl rfl rfl rfl rfl rfl rfl sl70 (by simp only [List.length_singleton]; omega) rfl rfl rfl rfl) ?_
          refine Pstep.go (st_fieldP rfl fi72_1 rfl rfl rfl) ?_
          refine Estep.go (st_storeP rfl rfl rfl rfl rfl rfl rfl sz70) ?_
          refine o_nil ?_
          refine a_region ?_
          refine Pstep.go (st_add rfl rfl (wrapS (k + 1) (by omega)) rfl) ?_
          refine Pstep.go (st_move rfl rfl) ?_
          refine o_nil ?_
          exact ⟨(k + 1, acc ++ [restI l p.it[k]]), ⟨by show k + 1 ≤ _; omega, by show acc ++ [restI l p.it[k]] = setlI l (p.it.take (k + 1)); rw [setlI_snoc_out hk1 h37, hA]⟩, by show p.it.length - (k + 1) < p.it.length - k; omega, lep_of hF [902, 3, 4] rfl (rfl) ⟨rfl, rfl, rfl, rfl, rfl, rfl, trivial⟩⟩
      · refine a_exit ?_
        refine a_seq ?_
        have hfa : acc = setlI l p.it := by rw [hA, List.take_of_length_le (by have h := h31; omega)]
        refine a_freezeC (ys := (setlI l p.it).map itmD) 4 0 1 902 rfl rfl rfl (by simp) (by rw [hfa]; exact List.take_of_length_le (by simp)) rfl rfl rfl rfl rfl rfl ?_
        refine a_region ?_
        refine Pstep.go (st_loadPS rfl rfl rw72 rfl rfl rfl) ?_
        refine Estep.go (st_storeP rfl rfl rfl rfl rfl rfl rfl sz72) ?_
        refine Pstep.go (st_assign rfl rfl) ?_
        refine o_nil ?_
        refine a_ret ?_
        exact ⟨_, [], [], res_of rfl, rfl, rfl, rfl, rfl⟩
  · have hS : setlE p l = choE p l := if_pos hE
    have hP : setlP p l = ⟨[], []⟩ := if_neg (by rw [hS]; exact hE)
    rw [if_neg hE] at ht
    rw [hS, hP]
    refine a_enter Try.func42 rfl rfl Try.ntmps42 rfl rfl rfl fun F hF => ?_
    refine a_seq ?_
    refine a_region ?_
    refine Estep.go (st_box 1 rfl rfl rfl rfl rfl rfl rfl) ?_
    refine Estep.go (st_box 2 rfl rfl rfl rfl rfl rfl rfl) ?_
    refine Estep.go (st_alloc 3 zl72 rfl rfl rfl rfl) ?_
    refine Pstep.go (st_assign rfl rfl) ?_
    refine o_nil ?_
    refine a_seq ?_
    refine a_region ?_
    refine Pstep.go (st_loadPS rfl rfl rw72 rfl rfl rfl) ?_
    refine Pstep.go (st_loadP rfl rfl rfl on24 rfl) ?_
    refine Pstep.go (st_callP (ht) rfl rfl) ?_
    refine Pstep.go (st_move rfl rfl) ?_
    refine Pstep.go (st_extractD rfl rfl rfl) ?_
    refine Pstep.go (st_extractD rfl rfl rfl) ?_
    refine Pstep.go (st_assign rfl rfl) ?_
    refine Pstep.go (st_assign rfl rfl) ?_
    refine o_nil ?_
    refine a_seq ?_
    refine a_seq ?_
    refine a_region ?_
    refine Pstep.go (st_move rfl rfl) ?_
    refine Pstep.go (st_neq rfl rfl rfl) ?_
    refine o_nil ?_
    refine a_true rfl ((decide_eq_true hE)) ?_
    refine a_seq ?_
    refine a_region ?_
    refine Pstep.go (st_build zl72 pl72 rfl rfl rfl) ?_
    refine o_weakD 20 (prbD ⟨[], []⟩) rfl prb0_weak ?_
    refine Pstep.go (st_move rfl rfl) ?_
    refine Estep.go (st_storeP rfl rfl rfl rfl rfl rfl rfl sz72) ?_
    refine Pstep.go (st_assign rfl rfl) ?_
    refine o_nil ?_
    refine a_ret ?_
    exact ⟨_, [], [], res_of rfl, rfl, rfl, rfl, rfl⟩
end Go.Proofs.Ytfmpiabmnjmobaa
