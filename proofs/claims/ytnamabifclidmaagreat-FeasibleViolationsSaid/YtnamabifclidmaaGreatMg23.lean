/- Proved here: feasibleViolations_holds, the given statement Rows.FeasibleViolationsSaid: the law girolaw29.FeasibleViolations returns true and does not panic, at every input that the statement speaks of; no condition beyond the statement. -/
/- Layer 29: the laws of the reasons why sets are not admissible, and of overdrawn resources. -/
import Derived.Test.YtnamabifclidmaaGreatMg22
namespace Go.Proofs.YtnamabifclidmaaGreat
open Go.RowKit

set_option maxRecDepth 100000 in
theorem lawF3_p (p : Prb) (l : List Int) : PCalls Tryz.prog 5 [.d (prbD p), .d (.sl none (l.map intD))] (.raw (.bool true)) := by
  have hk := known29_p
  have hs := small_p p
  by_cases hf : Sml p
  · rw [decide_eq_true hf] at hs
    have c1 := own_p p hf
    have g1 := hf.1
    have g2 := hf.2.1
    have g3 := hf.2.2
    by_cases hl : l.length ≤ 20
    · have c2 := violF_p p l (sml_B hf) (by omega)
      have c4 := check29_p p l (by omega) (by omega) (fun i hi => by have := g3 i hi; omega) (by omega)
      by_cases h0 : choE p l = 0
      · have c5 := viol29_p p l (sml_V hf (choE_prb h0)) (by omega) (cho_in h0)
        rw [if_pos h0, h0] at c2
        rw [h0] at c4
        have hwl : (viol p (setM l)).length ≤ 1000 := by
          unfold viol
          have h5 := flat_len (f := vio1 p (setM l)) (n := 1) (l := linL p) (fun x _ => vio1_len p (setM l) x)
          have h6 := linL_len p
          omega
        obtain ⟨W, hW⟩ : ∃ W, viol p (setM l) = W := ⟨_, rfl⟩
        rw [hW] at c2 c5 hwl
        refine a_enter Tryz.func5 rfl rfl Tryz.ntmps5 rfl rfl rfl fun F hF => ?_
        refine a_seq ?_
        refine a_region ?_
        refine Estep.go (st_box 1 rfl rfl rfl rfl rfl rfl rfl) ?_
        refine Pstep.go (st_assign rfl rfl) ?_
        refine o_nil ?_
        refine a_seq ?_
        refine a_seq ?_
        refine a_region ?_
        refine Pstep.go (st_loadPS rfl rfl rw25 rfl rfl rfl) ?_
        refine Pstep.go (st_callP (hs) rfl rfl) ?_
        refine Pstep.go (st_not rfl rfl) ?_
        refine Pstep.go (st_move rfl rfl) ?_
        refine o_setF 13 rfl (rfl) ?_
        refine o_run rfl rfl rfl ?_
        refine Pstep.go (st_move rfl rfl) ?_
        refine o_run rfl rfl rfl ?_
        refine Pstep.go (st_lenMap rfl Tryz.underlying26 rfl) ?_
        refine o_run rfl rfl rfl ?_
        refine Pstep.go (st_gtr rfl rfl rfl) ?_
        refine Pstep.go (st_pickF rfl rfl rfl rfl) ?_
        refine o_nil ?_
        refine a_false rfl ((decide_eq_false (by omega))) ?_
        refine a_skip ?_
        refine a_seq ?_
        refine a_region ?_
        refine Pstep.go (st_loadPS rfl rfl rw25 rfl rfl rfl) ?_
        refine Pstep.go (st_callP (c1) rfl rfl) ?_
        refine Pstep.go (st_move rfl rfl) ?_
        refine Pstep.go (st_callP (c2) rfl rfl) ?_
        refine Pstep.go (st_move rfl rfl) ?_
        refine Pstep.go (st_extractD rfl rfl rfl) ?_
        refine Pstep.go (st_extractD rfl rfl rfl) ?_
        refine Pstep.go (st_assign rfl rfl) ?_
        refine Pstep.go (st_assign rfl rfl) ?_
        refine o_nil ?_
        refine a_seq ?_
        refine a_region ?_
        refine Pstep.go (st_loadPS rfl rfl rw25 rfl rfl rfl) ?_
        refine Pstep.go (st_move rfl rfl) ?_
        refine Pstep.go (st_callP (c4) rfl rfl) ?_
        refine Pstep.go (st_assign rfl rfl) ?_
        refine o_nil ?_
        refine a_seq ?_
        refine a_seq ?_
        refine a_region ?_
        refine Pstep.go (st_move rfl rfl) ?_
        refine Pstep.go (st_move rfl rfl) ?_
        refine Pstep.go (st_neq rfl rfl rfl) ?_
        refine o_nil ?_
        refine a_false rfl ((by simp)) ?_
        refine a_skip ?_
        refine a_seq ?_
        refine a_seq ?_
        refine a_region ?_
        refine Pstep.go (st_move rfl rfl) ?_
        refine Pstep.go (st_neq rfl rfl rfl) ?_
        refine o_nil ?_
        refine a_false rfl ((by simp)) ?_
        refine a_skip ?_
        refine a_seq ?_
        refine a_region ?_
        refine Pstep.go (st_loadPS rfl rfl rw25 rfl rfl rfl) ?_
        refine Pstep.go (st_move rfl rfl) ?_
        refine Pstep.go (st_callP (c5) rfl rfl) ?_
        refine Pstep.go (st_assign rfl rfl) ?_
        refine o_nil ?_
        refine a_seq ?_
        refine a_seq ?_
        refine a_region ?_
        refine Pstep.go (st_move rfl rfl) ?_
        refine Pstep.go (st_lenMap rfl Tryz.underlying56 rfl) ?_
        refine Pstep.go (st_move rfl rfl) ?_
        refine Pstep.go (st_lenMap rfl Tryz.underlying59 rfl) ?_
        refine Pstep.go (st_neq rfl rfl rfl) ?_
        refine o_nil ?_
        refine a_false rfl ((by simp)) ?_
        refine a_skip ?_
        refine a_seq ?_
        refine a_seq ?_
        refine a_region ?_
        refine Pstep.go (st_assign rfl rfl) ?_
        refine o_nil ?_
        refine a_block ?_
        refine a_loopP (α := Nat) (fun k => ⟨80, [(5, (.d (.sl none (W.map rooD)))), (8, (.d (.sl none (W.map rooD)))), (9, (.d (intD (k : Int))))], [(1, [prbB2 25 p])]⟩) (fun k => k ≤ W.length) (fun k => W.length - k) (0) (Nat.zero_le _) (lep_of hF [1] rfl rfl ⟨rfl, rfl, rfl, trivial⟩) ?_
        rintro k hk0
        refine a_seq ?_
        refine a_seq ?_
        refine a_region ?_
        refine Pstep.go (st_move rfl rfl) ?_
        refine Pstep.go (st_move rfl rfl) ?_
        refine Pstep.go (st_lenMap rfl Tryz.underlying56 rfl) ?_
        refine Pstep.go (st_lss rfl rfl rfl) ?_
        refine o_nil ?_
        refine a_if rfl (fun h51 => ?_) (fun h51 => ?_)
        · have hk1 : k < W.length := lt_cast h51
          refine a_skip ?_
          refine a_seq ?_
          refine a_block ?_
          refine a_seq ?_
          refine a_drawn [[], [], [0, 1], [0, 1, 2], [0, 1, 2, 3], [0, 1, 2, 3, 4], [], [], [6, 7], [6, 7, 8], [6, 7, 8, 9], [0, 1, 2, 3, 4, 5, 6, 7, 8, 9, 10], [0, 1, 2, 3, 4, 5, 6, 7, 8, 9, 10, 11], [0, 1, 2, 3, 4, 5, 6, 7, 8, 9, 10, 11, 12], [0, 1, 2, 3, 4, 5, 6, 7, 8, 9, 10, 11, 12], [0, 1, 2, 3, 4, 5, 6, 7, 8, 9, 10, 11, 12, 13, 14], [0, 1, 2, 3, 4, 5, 6, 7, 8, 9, 10, 11, 12, 13, 14, 15], [0, 1, 2, 3, 4, 5, 6, 7, 8, 9, 10, 11, 12, 13, 14, 15, 16], [0, 1, 2, 3, 4, 5, 6, 7, 8, 9, 10, 11, 12], [0, 1, 2, 3, 4, 5, 6, 7, 8, 9, 10, 11, 12], [0, 1, 2, 3, 4, 5, 6, 7, 8, 9, 10, 11, 12, 18, 19], [0, 1, 2, 3, 4, 5, 6, 7, 8, 9, 10, 11, 12, 18, 19, 20], [0, 1, 2, 3, 4, 5, 6, 7, 8, 9, 10, 11, 12, 18, 19, 20, 21], [0, 1, 2, 3, 4, 5, 6, 7, 8, 9, 10, 11, 12, 13, 14, 15, 16, 17, 18, 19, 20, 21, 22], [0, 1, 2, 3, 4, 5, 6, 7, 8, 9, 10, 11, 12, 13, 14, 15, 16, 17, 18, 19, 20, 21, 22, 23]] mixed rfl ?_
          refine dws ?_
          refine d_pure [5] [] rfl rfl (fun _ => gp_none (st_move rfl rfl)) ?_
          refine d_pure [9] [] rfl rfl (fun _ => gp_none (st_move rfl rfl)) ?_
          refine d_pure [54, 55] [] rfl rfl (fun _ => gp_none (st_indexD (k) rfl rfl (rfl) (getm hk1) Tryz.underlying56 rfl sz62 rfl)) ?_
          refine d_pure [56] [] rfl rfl (fun _ => gp_none (st_fieldFS rfl fi62_0 rfl rfl rfl)) ?_
          refine d_pure [57] [] rfl rfl (fun _ => gp_none (st_loadDS rfl rfl rw47 rfl)) ?_
          refine d_pure [58] [] rfl rfl (fun _ => gp_none (st_callP (backres_p W[k].r) rfl rfl)) ?_
          refine d_pure [8] [] rfl rfl (fun _ => gp_none (st_move rfl rfl)) ?_
          refine d_pure [9] [] rfl rfl (fun _ => gp_none (st_move rfl rfl)) ?_
          refine d_pure [60, 61] [] rfl rfl (fun _ => gp_none (st_indexD (k) rfl rfl (rfl) (getm hk1) Tryz.underlying59 rfl sz64 rfl)) ?_
          refine d_pure [62] [] rfl rfl (fun _ => gp_none (st_fieldFS rfl fi64_0 rfl rfl rfl)) ?_
          refine d_pure [63] [] rfl rfl (fun _ => gp_none (st_loadDS rfl rfl rw52 rfl)) ?_
          refine dwc 11 rfl rfl rfl ?_
          refine dw1 12 rfl rfl ?_
          refine Pstep.go (st_neqSt (la := rscC W[k].r) (lb := rscC W[k].r) (ds := rscT) (by kernel_rfl) (by kernel_rfl) (by kernel_rfl) rfl rfl rfl rfl (rsc_plain _) (rsc_plain _) (neC (rsc_eqC _ _)) rfl) ?_
          refine o_nil ⟨rfl, ?_⟩
          refine dw1 13 rfl rfl ?_
          refine Pstep.go (st_move rfl rfl) ?_
          refine o_setF 66 rfl ((by simp)) ?_
          refine o_nil ⟨rfl, ?_⟩
          refine dws ?_
          refine d_pure [5, 66] [] rfl rfl (fun _ => gp_run rfl rfl rfl (st_move rfl rfl)) ?_
          refine d_pure [9, 66] [] rfl rfl (fun _ => gp_run rfl rfl rfl (st_move rfl rfl)) ?_
          refine d_pure [67, 68, 66] [] rfl rfl (fun _ => gp_run rfl rfl rfl (st_indexD (k) rfl rfl (rfl) (getm hk1) Tryz.underlying56 rfl sz62 rfl)) ?_
          refine d_pure [69, 66] [] rfl rfl (fun _ => gp_run rfl rfl rfl (st_fieldF1 rfl fi62_1 rfl rfl rfl)) ?_
          refine d_pure [70, 66] [] rfl rfl (fun _ => gp_run rfl rfl rfl (st_loadD1 rfl rfl on2 rfl)) ?_
          refine d_pure [8, 66] [] rfl rfl (fun _ => gp_run rfl rfl rfl (st_move rfl rfl)) ?_
          refine d_pure [9, 66] [] rfl rfl (fun _ => gp_run rfl rfl rfl (st_move rfl rfl)) ?_
          refine d_pure [72, 73, 66] [] rfl rfl (fun _ => gp_run rfl rfl rfl (st_indexD (k) rfl rfl (rfl) (getm hk1) Tryz.underlying59 rfl sz64 rfl)) ?_
          refine d_pure [74, 66] [] rfl rfl (fun _ => gp_run rfl rfl rfl (st_fieldF1 rfl fi64_1 rfl rfl rfl)) ?_
          refine d_pure [75, 66] [] rfl rfl (fun _ => gp_run rfl rfl rfl (st_loadD1 rfl rfl on2 rfl)) ?_
          refine dwc 23 rfl rfl rfl ?_
          refine dw1 24 rfl rfl ?_
          refine o_run rfl rfl rfl ?_
          refine Pstep.go (st_neq rfl rfl rfl) ?_
          refine o_nil ⟨rfl, ?_⟩
          refine dw1 25 rfl rfl ?_
          refine Pstep.go (st_pickF rfl rfl rfl rfl) ?_
          refine o_nil ⟨rfl, ?_⟩
          refine dwe ?_
          refine a_false rfl ((by simp)) ?_
          refine a_skip ?_
          refine a_region ?_
          refine Pstep.go (st_move rfl rfl) ?_
          refine Pstep.go (st_add rfl rfl (wrapS (k + 1) (by omega)) rfl) ?_
          refine Pstep.go (st_assign rfl rfl) ?_
          refine o_nil ?_
          exact ⟨k + 1, by show k + 1 ≤ _; omega, by show W.length - (k + 1) < W.length - k; omega, lep_of hF [1] rfl (rfl) ⟨rfl, rfl, rfl, trivial⟩⟩
        · refine a_exit ?_
          refine a_seq ?_
          refine a_region ?_
          refine Pstep.go (st_callP (hk) rfl rfl) ?_
          refine Pstep.go (st_assign rfl rfl) ?_
          refine o_nil ?_
          refine a_ret ?_
          exact ⟨_, [], [], res_of rfl, rfl, rfl, rfl, rfl⟩
      · rw [if_neg h0] at c2
        refine a_enter Tryz.func5 rfl rfl Tryz.ntmps5 rfl rfl rfl fun F hF => ?_
        refine a_seq ?_
        refine a_region ?_
        refine Estep.go (st_box 1 rfl rfl rfl rfl rfl rfl rfl) ?_
        refine Pstep.go (st_assign rfl rfl) ?_
        refine o_nil ?_
        refine a_seq ?_
        refine a_seq ?_
        refine a_region ?_
        refine Pstep.go (st_loadPS rfl rfl rw25 rfl rfl rfl) ?_
        refine Pstep.go (st_callP (hs) rfl rfl) ?_
        refine Pstep.go (st_not rfl rfl) ?_
        refine Pstep.go (st_move rfl rfl) ?_
        refine o_setF 13 rfl (rfl) ?_
        refine o_run rfl rfl rfl ?_
        refine Pstep.go (st_move rfl rfl) ?_
        refine o_run rfl rfl rfl ?_
        refine Pstep.go (st_lenMap rfl Tryz.underlying26 rfl) ?_
        refine o_run rfl rfl rfl ?_
        refine Pstep.go (st_gtr rfl rfl rfl) ?_
        refine Pstep.go (st_pickF rfl rfl rfl rfl) ?_
        refine o_nil ?_
        refine a_false rfl ((decide_eq_false (by omega))) ?_
        refine a_skip ?_
        refine a_seq ?_
        refine a_region ?_
        refine Pstep.go (st_loadPS rfl rfl rw25 rfl rfl rfl) ?_
        refine Pstep.go (st_callP (c1) rfl rfl) ?_
        refine Pstep.go (st_move rfl rfl) ?_
        refine Pstep.go (st_callP (c2) rfl rfl) ?_
        refine Pstep.go (st_move rfl rfl) ?_
        refine Pstep.go (st_extractD rfl rfl rfl) ?_
        refine Pstep.go (st_extractD rfl rfl rfl) ?_
        refine Pstep.go (st_assign rfl rfl) ?_
        refine Pstep.go (st_assign rfl rfl) ?_
        refine o_nil ?_
        refine a_seq ?_
        refine a_region ?_
        refine Pstep.go (st_loadPS rfl rfl rw25 rfl rfl rfl) ?_
        refine Pstep.go (st_move rfl rfl) ?_
        refine Pstep.go (st_callP (c4) rfl rfl) ?_
        refine Pstep.go (st_assign rfl rfl) ?_
        refine o_nil ?_
        refine a_seq ?_
        refine a_seq ?_
        refine a_region ?_
        refine Pstep.go (st_move rfl rfl) ?_
        refine Pstep.go (st_move rfl rfl) ?_
        refine Pstep.go (st_neq rfl rfl rfl) ?_
        refine o_nil ?_
        refine a_false rfl ((by simp)) ?_
        refine a_skip ?_
        refine a_seq ?_
        refine a_seq ?_
        refine a_region ?_
        refine Pstep.go (st_move rfl rfl) ?_
        refine Pstep.go (st_neq rfl rfl rfl) ?_
        refine o_nil ?_
        refine a_true rfl ((decide_eq_true h0)) ?_
        refine a_seq ?_
        refine a_region ?_
        refine Pstep.go (st_callP (hk) rfl rfl) ?_
        refine Pstep.go (st_move rfl rfl) ?_
        refine o_setT 35 rfl (rfl) ?_
        refine o_run rfl rfl rfl ?_
        refine Pstep.go (st_move rfl rfl) ?_
        refine o_run rfl rfl rfl ?_
        refine Pstep.go (st_lenMap rfl Tryz.underlying56 rfl) ?_
        refine o_run rfl rfl rfl ?_
        refine Pstep.go (st_eql rfl rfl rfl) ?_
        refine Pstep.go (st_pickT rfl rfl rfl rfl) ?_
        refine Pstep.go (st_assign rfl rfl) ?_
        refine o_nil ?_
        refine a_ret ?_
        exact ⟨_, [], [], res_of rfl, rfl, rfl, rfl, rfl⟩
    · have hll : ¬ l.length ≤ 20 := hl
      refine a_enter Tryz.func5 rfl rfl Tryz.ntmps5 rfl rfl rfl fun F hF => ?_
      refine a_seq ?_
      refine a_region ?_
      refine Estep.go (st_box 1 rfl rfl rfl rfl rfl rfl rfl) ?_
      refine Pstep.go (st_assign rfl rfl) ?_
      refine o_nil ?_
      refine a_seq ?_
      refine a_seq ?_
      refine a_region ?_
      refine Pstep.go (st_loadPS rfl rfl rw25 rfl rfl rfl) ?_
      refine Pstep.go (st_callP (hs) rfl rfl) ?_
      refine Pstep.go (st_not rfl rfl) ?_
      refine Pstep.go (st_move rfl rfl) ?_
      refine o_setF 13 rfl (rfl) ?_
      refine o_run rfl rfl rfl ?_
      refine Pstep.go (st_move rfl rfl) ?_
      refine o_run rfl rfl rfl ?_
      refine Pstep.go (st_lenMap rfl Tryz.underlying26 rfl) ?_
      refine o_run rfl rfl rfl ?_
      refine Pstep.go (st_gtr rfl rfl rfl) ?_
      refine Pstep.go (st_pickF rfl rfl rfl rfl) ?_
      refine o_nil ?_
      refine a_true rfl ((decide_eq_true (by omega))) ?_
      refine a_seq ?_
      refine a_region ?_
      refine Pstep.go (st_callP (hk) rfl rfl) ?_
      refine Pstep.go (st_assign rfl rfl) ?_
      refine o_nil ?_
      refine a_ret ?_
      exact ⟨_, [], [], res_of rfl, rfl, rfl, rfl, rfl⟩
  · rw [decide_eq_false hf] at hs
    refine a_enter Tryz.func5 rfl rfl Tryz.ntmps5 rfl rfl rfl fun F hF => ?_
    refine a_seq ?_
    refine a_region ?_
    refine Estep.go (st_box 1 rfl rfl rfl rfl rfl rfl rfl) ?_
    refine Pstep.go (st_assign rfl rfl) ?_
    refine o_nil ?_
    refine a_seq ?_
    refine a_seq ?_
    refine a_region ?_
    refine Pstep.go (st_loadPS rfl rfl rw25 rfl rfl rfl) ?_
    refine Pstep.go (st_callP (hs) rfl rfl) ?_
    refine Pstep.go (st_not rfl rfl) ?_
    refine Pstep.go (st_move rfl rfl) ?_
    refine o_setT 13 rfl (rfl) ?_
    refine o_pass rfl rfl rfl rfl ?_
    refine o_pass rfl rfl rfl rfl ?_
    refine o_pass rfl rfl rfl rfl ?_
    refine Pstep.go (st_pickT rfl rfl rfl rfl) ?_
    refine o_nil ?_
    refine a_true rfl rfl ?_
    refine a_seq ?_
    refine a_region ?_
    refine Pstep.go (st_callP (hk) rfl rfl) ?_
    refine Pstep.go (st_assign rfl rfl) ?_
    refine o_nil ?_
    refine a_ret ?_
    exact ⟨_, [], [], res_of rfl, rfl, rfl, rfl, rfl⟩
end Go.Proofs.YtnamabifclidmaaGreat
/- Layer 28: how the laws' arguments are opened. -/
namespace Go.Proofs.YtnamabifclidmaaGreat
open Go.ChangeShapes Go.WideShapes Go.ChangeAt Go.RowKit

section
variable {H : Type} {enc : TypeId × Value → H} {w : World}
abbrev tt {α : Type} : α → Prop := fun _ => True
theorem oI : OpenT enc Tryz.prog w 3 1 intD tt := (openI64 Tryz.underlying3).asQ id (fun _ _ => rfl) (fun _ _ => trivial)
theorem oJ : OpenT enc Tryz.prog w 2 1 intD tt := (openI64 Tryz.underlying2).asQ id (fun _ _ => rfl) (fun _ _ => trivial)
theorem oS : OpenT enc Tryz.prog w 9 1 strD tt := (openStrL Tryz.underlying9).asQ id (fun _ _ => rfl) (fun _ _ => trivial)
theorem oIs : OpenT enc Tryz.prog w 26 1 (fun l : List Int => .sl none (l.map intD)) tt := (openSl Tryz.underlying26 (by kernel_rfl) (by omega) (b := 8) (by kernel_rfl) oI).asQ id (fun _ _ => rfl) (fun _ _ => trivial)
theorem oAcc : OpenT enc Tryz.prog w 50 3 accD tt :=
  (openSt Tryz.underlying50 (by kernel_rfl) (openFc rfl (by kernel_rfl) oS (openFc rfl (by kernel_rfl) oI (openFc rfl (by kernel_rfl) oS openF0)))).asQ (fun a => (⟨a.1, a.2.1, a.2.2.1⟩ : Acc)) (fun _ _ => rfl) (fun _ _ => trivial)
theorem oPost : OpenT enc Tryz.prog w 144 4 postD tt :=
  (openSt Tryz.underlying144 (by kernel_rfl) (openFc rfl (by kernel_rfl) oAcc (openFc rfl (by kernel_rfl) oJ openF0))).asQ (fun a => (⟨a.1, a.2.1⟩ : Post)) (fun _ _ => rfl) (fun _ _ => trivial)
theorem oPay : OpenT enc Tryz.prog w 147 3 payD tt :=
  (openSt Tryz.underlying147 (by kernel_rfl) (openFc rfl (by kernel_rfl) oS (openFc rfl (by kernel_rfl) oS (openFc rfl (by kernel_rfl) oJ openF0)))).asQ (fun a => (⟨a.1, a.2.1, a.2.2.1⟩ : Pay)) (fun _ _ => rfl) (fun _ _ => trivial)
theorem oRsc : OpenT enc Tryz.prog w 52 6 rscD tt :=
  (openSt Tryz.underlying52 (by kernel_rfl) (openFc rfl (by kernel_rfl) oI (openFc rfl (by kernel_rfl) oAcc (openFc rfl (by kernel_rfl) oS (openFc rfl (by kernel_rfl) oS openF0))))).asQ (fun a => (⟨a.1, a.2.1, a.2.2.1, a.2.2.2.1⟩ : Rsc)) (fun _ _ => rfl) (fun _ _ => trivial)
theorem oItm : OpenT enc Tryz.prog w 80 6 itmD tt :=
  (openSt Tryz.underlying80 (by kernel_rfl) (openFc rfl (by kernel_rfl) oI (openFc rfl (by kernel_rfl) oI (openFc rfl (by kernel_rfl) oI
    (openFc rfl (by kernel_rfl) (openSl Tryz.underlying77 (by kernel_rfl) (by omega) (b := 48) (by kernel_rfl) oPost)
    (openFc rfl (by kernel_rfl) (openSl Tryz.underlying78 (by kernel_rfl) (by omega) (b := 40) (by kernel_rfl) oPay) (openFc rfl (by kernel_rfl) oIs openF0))))))).asQ
    (fun a => (⟨a.1, a.2.1, a.2.2.1, a.2.2.2.1, a.2.2.2.2.1, a.2.2.2.2.2.1⟩ : Itm)) (fun _ _ => rfl) (fun _ _ => trivial)
theorem oRoo : OpenT enc Tryz.prog w 104 7 rooD tt :=
  (openSt Tryz.underlying104 (by kernel_rfl) (openFc rfl (by kernel_rfl) oRsc (openFc rfl (by kernel_rfl) oJ openF0))).asQ (fun a => (⟨a.1, a.2.1⟩ : Roo)) (fun _ _ => rfl) (fun _ _ => trivial)
theorem oPrb : OpenT enc Tryz.prog w 25 2 prbD tt :=
  (openSt Tryz.underlying25 (by kernel_rfl) (openFc rfl (by kernel_rfl) (openSl Tryz.underlying22 (by kernel_rfl) (by omega) (b := 88) (by kernel_rfl) oRoo) (openFc rfl (by kernel_rfl) (openSl Tryz.underlying23 (by kernel_rfl) (by omega) (b := 96) (by kernel_rfl) oItm) openF0))).asQ
    (fun a => (⟨a.1, a.2.1⟩ : Prb)) (fun _ _ => rfl) (fun _ _ => trivial)
end
end Go.Proofs.YtnamabifclidmaaGreat
/- 'girolaw29.FeasibleViolations': for every input the law returns true, and each argument reads behind the call as it read before. No condition. -/
namespace Go.Proofs.YtnamabifclidmaaGreat
open Go.ChangeShapes Go.WideShapes Go.ChangeAt Go.RowKit

set_option maxRecDepth 100000 in
theorem feasibleViolations_lifted (os : Os) (started : os.Started) (H : Type) (enc : TypeId × Value → H) :
    ReturnsInHanded {} Tryz.checked os 5 .any (Rows.feasibleViolationsSpec.pre6 enc Tryz.prog Tryz.f5 Rows.feasibleViolationsRow.domain false) (Rows.feasibleViolationsSpec.post enc Tryz.prog Tryz.f5 false true false false) := by
  refine returnsInHanded_of_change_sized (C := Tryz.checked) Tryz.own started (by kernel_rfl) Tryz.func5
    (ChangeSpec.witness6 (enc := enc) (C := Tryz.checked) false ⟨#[], #[.agg #[.slice none 0 0, .slice none 0 0], .slice none 0 0], []⟩ 8 (by kernel_rfl) (by kernel_rfl) (by kernel_rfl) (by kernel_rfl)) ?_
  intro W base args ds gs before hval0 hW _ hwt _
  have hW' := hW
  obtain ⟨p, q, hA0, hV, rfl, _, _⟩ := hW
  have hlt : ∀ x ∈ p ++ q, x.block < W.heap.size := fun x hx => hW'.lt x hx
  have hA : DataW.TrodAll enc Tryz.prog W 0 (fun _ => true) true Tryz.f5.params.toList args.toList ds p := hA0
  rw [Tryz.params5] at hA
  obtain ⟨v0, v1, d0, d1, p0, p1, rfl, rfl, rfl, h0, h1⟩ := trodAll_two hA
  obtain ⟨rfl, rfl⟩ := trodVars_none hV
  have hwz : ∀ n ∈ DataW.weightsEach Tryz.prog ([25, 26] : List TypeId) ([d0, d1]), n ≤ reachBytes := fun n hn => of_decide_eq_true (List.all_eq_true.1 hwt n (by rw [Tryz.params5]; exact hn))
  have hval : ∀ (j : Nat) t v, Tryz.f5.params[j]? = some t → (#[v0, v1] : Array Value)[j]? = some v → Value.okWide Tryz.prog W .any base t v := hval0
  rw [Tryz.params5] at hval
  obtain ⟨n0, g0⟩ := h0
  obtain ⟨cs0, rfl, _⟩ := okWide_struct Tryz.underlying25 (hval 0 25 v0 rfl rfl)
  obtain ⟨a0, q0, _, r0⟩ := (oPrb) _ _ _ g0 (fun x hx => hlt x (by simp [hx])) (fun n hn => hwz n (DataW.weights_mem_each (j := 0) (t := 25) rfl rfl n hn))
  obtain ⟨n1, g1⟩ := h1
  have hv1 : v1.oneCell' = true := by obtain ⟨_, _, _, e⟩ := okWide_slice Tryz.underlying26 (hval 1 26 v1 rfl rfl); rw [e]; rfl
  obtain ⟨a1, q1, _, r1⟩ := (openSl Tryz.underlying26 (by kernel_rfl) (by omega) (b := 8) (by kernel_rfl) (openInt Tryz.underlying3)) _ _ _ g1 (fun x hx => hlt x (by simp [hx])) (fun n hn => hwz n (DataW.weights_mem_each (j := 1) (t := 26) rfl rfl n hn))
  refine (law_calls (lawF3_p a0 a1) (vs := [.agg cs0, v1]) rfl (fun i a v ha hv => ?_)).mono fun e W' ⟨he, hb⟩ => ?_
  · rcases i with _ | _ | i
    · simp at ha hv; subst ha hv; exact RepC.argS rfl r0
    · simp at ha hv; subst ha hv; exact RepC.arg1 rfl rfl hv1 r1
    · simp at ha
  subst he
  exact ⟨_, rfl, law_post (tb := 4) Tryz.laidOut (by kernel_rfl) rfl rfl Tryz.underlying4 hW' ⟨rfl, rfl, rfl⟩ hb⟩

theorem feasibleViolations_holds : Rows.FeasibleViolationsSaid :=
  OpenClaim.holds_of_wide 5 Tryz.f5 rfl rfl rfl rfl rfl rfl rfl ⟨rfl, rfl, rfl, rfl, rfl⟩ rfl rfl rfl rfl rfl (by kernel_rfl) Tryz.func5 (by kernel_rfl)
    (of_decide_eq_true (by kernel_rfl)) (by unfold Func.isWrapper; first | (rw [if_pos (by decide +kernel)]; kernel_rfl) | (rw [if_neg (by decide +kernel)]; exact ⟨rfl, rfl⟩))
    (fun os started H enc _ => feasibleViolations_lifted os started H enc)
#print axioms feasibleViolations_holds

end Go.Proofs.YtnamabifclidmaaGreat
