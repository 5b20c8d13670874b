/- Layer 28: equal problems; the reference's deltas. -/
import Derived.Test.YtfmpiabmnjmobaaResY
namespace Go.Proofs.Ytfmpiabmnjmobaa
open Go.RowKit

theorem retB' {b : Bool} (h : b = true) : AV.d (.raw (.bool b)) = .d (.raw (.bool true)) := by rw [h]
def Few (p : Prb) : Prop := p.ro.length ≤ 100000000 ∧ p.it.length ≤ 100000000 ∧ ∀ i ∈ p.it, i.po.length ≤ 100000000 ∧ i.pa.length ≤ 100000000 ∧ i.af.length ≤ 100000000
abbrev prbB (p : Prb) : AObj := .blk 67 [.d (.sl none (p.ro.map rooD)), .d (.sl none (p.it.map itmD))]
set_option maxRecDepth 100000 in
theorem same_p (p q : Prb) (h : Few p) : PCalls Try.prog 47 [.d (prbD p), .d (prbD q)] (.raw (.bool (decide (p.ro = q.ro ∧ p.it = q.it)))) := by
  obtain ⟨g1, g2, g3⟩ := h
  refine a_enter Try.func47 rfl rfl Try.ntmps47 rfl rfl rfl fun F hF => ?_
  refine a_seq ?_
  refine a_region ?_
  refine Estep.go (st_box 1 rfl rfl rfl rfl rfl rfl rfl) ?_
  refine Estep.go (st_box 2 rfl rfl rfl rfl rfl rfl rfl) ?_
  refine Pstep.go (st_assign rfl rfl) ?_
  refine o_nil ?_
  refine a_seq ?_
  refine a_seq ?_
  refine a_region ?_
  refine Pstep.go (st_fieldP rfl fi67_0 rfl rfl rfl) ?_
  refine Pstep.go (st_loadP rfl rfl rfl on58 rfl) ?_
  refine Pstep.go (st_lenMap rfl Try.underlying58 rfl) ?_
  refine Pstep.go (st_fieldP rfl fi67_0 rfl rfl rfl) ?_
  refine Pstep.go (st_loadP rfl rfl rfl on58 rfl) ?_
  refine Pstep.go (st_lenMap rfl Try.underlying58 rfl) ?_
  refine Pstep.go (st_neq rfl rfl rfl) ?_
  refine Pstep.go (st_move rfl rfl) ?_
  refine o_splitP 14 rfl (fun h14 => ?_) (fun h14 => ?_)
  · refine o_pass rfl rfl rfl rfl ?_
    refine o_pass rfl rfl rfl rfl ?_
    refine o_pass rfl rfl rfl rfl ?_
    refine o_pass rfl rfl rfl rfl ?_
    refine o_pass rfl rfl rfl rfl ?_
    refine o_pass rfl rfl rfl rfl ?_
    refine o_pass rfl rfl rfl rfl ?_
    refine Pstep.go (st_pickT rfl rfl rfl rfl) ?_
    refine o_nil ?_
    refine a_true rfl rfl ?_
    refine a_seq ?_
    refine a_region ?_
    refine Pstep.go (st_assign rfl rfl) ?_
    refine o_nil ?_
    refine a_ret ?_
    exact ⟨_, [], [], res_of rfl, rfl, rfl, retF (fun ⟨h1, h2⟩ => by rw [h1, h2] at *; simp_all), rfl⟩
  · refine o_run rfl rfl rfl ?_
    refine Pstep.go (st_fieldP rfl fi67_1 rfl rfl rfl) ?_
    refine o_run rfl rfl rfl ?_
    refine Pstep.go (st_loadP rfl rfl rfl on65 rfl) ?_
    refine o_run rfl rfl rfl ?_
    refine Pstep.go (st_lenMap rfl Try.underlying65 rfl) ?_
    refine o_run rfl rfl rfl ?_
    refine Pstep.go (st_fieldP rfl fi67_1 rfl rfl rfl) ?_
    refine o_run rfl rfl rfl ?_
    refine Pstep.go (st_loadP rfl rfl rfl on65 rfl) ?_
    refine o_run rfl rfl rfl ?_
    refine Pstep.go (st_lenMap rfl Try.underlying65 rfl) ?_
    refine o_run rfl rfl rfl ?_
    refine Pstep.go (st_neq rfl rfl rfl) ?_
    refine Pstep.go (st_pickF rfl rfl rfl rfl) ?_
    refine o_nil ?_
    refine a_if rfl (fun h22 => ?_) (fun h22 => ?_)
    · refine a_seq ?_
      refine a_region ?_
      refine Pstep.go (st_assign rfl rfl) ?_
      refine o_nil ?_
      refine a_ret ?_
      exact ⟨_, [], [], res_of rfl, rfl, rfl, retF (fun ⟨h1, h2⟩ => by rw [h1, h2] at *; simp_all), rfl⟩
    · refine a_skip ?_
      refine a_seq ?_
      refine a_seq ?_
      have hro : p.ro.length = q.ro.length := by omega
      have hit : p.it.length = q.it.length := by omega
      refine a_region ?_
      refine Pstep.go (st_assign rfl rfl) ?_
      refine o_nil ?_
      refine a_block ?_
      refine a_loopP (α := Nat) (fun k => ⟨60, [(2, (.ptr 1 0 0)), (3, (.ptr 2 0 0)), (5, (.d (intD (k : Int))))], [(1, [prbB p]), (2, [prbB q])]⟩) (fun k => k ≤ p.ro.length ∧ p.ro.take k = q.ro.take k) (fun k => p.ro.length - k) (0) (⟨Nat.zero_le _, by simp⟩) (lep_of hF [1, 2] rfl rfl ⟨rfl, rfl, rfl, trivial⟩) ?_
      rintro k ⟨hk0, hk⟩
      refine a_seq ?_
      refine a_seq ?_
      refine a_region ?_
      refine Pstep.go (st_move rfl rfl) ?_
      refine Pstep.go (st_fieldP rfl fi67_0 rfl rfl rfl) ?_
      refine Pstep.go (st_loadP rfl rfl rfl on58 rfl) ?_
      refine Pstep.go (st_lenMap rfl Try.underlying58 rfl) ?_
      refine Pstep.go (st_lss rfl rfl rfl) ?_
      refine o_nil ?_
      refine a_if rfl (fun h27 => ?_) (fun h27 => ?_)
      · have hk1 : k < p.ro.length := lt_cast h27
        refine a_skip ?_
        refine a_seq ?_
        refine a_block ?_
        refine a_seq ?_
        refine a_drawn [[], [0], [], [0, 1, 2], [0, 1, 2, 3], [], [5], [], [5, 6, 7], [5, 6, 7, 8], [0, 1, 2, 3, 4, 5, 6, 7, 8, 9]] mixed rfl ?_
        refine dws ?_
        have hk2 : k < q.ro.length := by omega
        refine d_pure [2] [] rfl rfl (fun _ => gp_none (st_fieldP rfl fi67_0 rfl rfl rfl)) ?_
        refine d_pureA [30] rfl rfl (fun _ => gp_none (st_loadP rfl rfl rfl on58 rfl)) ?_
        refine d_pure [5] [] rfl rfl (fun _ => gp_none (st_move rfl rfl)) ?_
        refine d_pure [31, 32] [] rfl rfl (fun _ => gp_none (st_indexD (k) rfl rfl (rfl) (getm hk1) Try.underlying58 rfl sz61 rfl)) ?_
        refine d_pure [33] [] rfl rfl (fun _ => gp_none (st_loadDS rfl rfl rw61 rfl)) ?_
        refine d_pure [3] [] rfl rfl (fun _ => gp_none (st_fieldP rfl fi67_0 rfl rfl rfl)) ?_
        refine d_pureA [35] rfl rfl (fun _ => gp_none (st_loadP rfl rfl rfl on58 rfl)) ?_
        refine d_pure [5] [] rfl rfl (fun _ => gp_none (st_move rfl rfl)) ?_
        refine d_pure [36, 37] [] rfl rfl (fun _ => gp_none (st_indexD (k) rfl rfl (rfl) (getm hk2) Try.underlying58 rfl sz61 rfl)) ?_
        refine d_pure [38] [] rfl rfl (fun _ => gp_none (st_loadDS rfl rfl rw61 rfl)) ?_
        refine dwc 10 rfl rfl rfl ?_
        refine dw1 11 rfl rfl ?_
        refine Pstep.go (st_neqSt (la := rooC p.ro[k]) (lb := rooC q.ro[k]) (ds := rooT) (by kernel_rfl) (by kernel_rfl) (by kernel_rfl) rfl rfl rfl rfl (roo_plain _) (roo_plain _) (neC (roo_eqC _ _)) rfl) ?_
        refine o_nil ⟨rfl, ?_⟩
        refine dwe ?_
        refine a_if rfl (fun h40 => ?_) (fun h40 => ?_)
        · refine a_seq ?_
          refine a_region ?_
          refine Pstep.go (st_assign rfl rfl) ?_
          refine o_nil ?_
          refine a_ret ?_
          exact ⟨_, [], [], res_of rfl, rfl, rfl, retF (fun h => ne_at hk1 hk2 h40 h.1), rfl⟩
        · refine a_skip ?_
          refine a_region ?_
          refine Pstep.go (st_move rfl rfl) ?_
          refine Pstep.go (st_add rfl rfl (wrapS (k + 1) (by omega)) rfl) ?_
          refine Pstep.go (st_assign rfl rfl) ?_
          refine o_nil ?_
          exact ⟨k + 1, ⟨by show k + 1 ≤ _; omega, tk_succ hk1 hk2 hk (by simpa using h40)⟩, by show p.ro.length - (k + 1) < p.ro.length - k; omega, lep_of hF [1, 2] rfl (rfl) ⟨rfl, rfl, rfl, trivial⟩⟩
      · refine a_exit ?_
        refine a_seq ?_
        refine a_seq ?_
        have hre := tk_all hro (by have h := h27; omega) hk
        refine a_region ?_
        refine Pstep.go (st_assign rfl rfl) ?_
        refine o_nil ?_
        refine a_block ?_
        refine a_loopP (α := Nat) (fun k => ⟨60, [(2, (.ptr 1 0 0)), (3, (.ptr 2 0 0)), (6, (.d (intD (k : Int))))], [(1, [prbB p]), (2, [prbB q])]⟩) (fun k => k ≤ p.it.length ∧ p.it.take k = q.it.take k) (fun k => p.it.length - k) (0) (⟨Nat.zero_le _, by simp⟩) (lep_of hF [1, 2] rfl rfl ⟨rfl, rfl, rfl, trivial⟩) ?_
        rintro k ⟨hk0, hk⟩
        refine a_seq ?_
        refine a_seq ?_
        refine a_region ?_
        refine Pstep.go (st_move rfl rfl) ?_
        refine Pstep.go (st_fieldP rfl fi67_1 rfl rfl rfl) ?_
        refine Pstep.go (st_loadP rfl rfl rfl on65 rfl) ?_
        refine Pstep.go (st_lenMap rfl Try.underlying65 rfl) ?_
        refine Pstep.go (st_lss rfl rfl rfl) ?_
        refine o_nil ?_
        refine a_if rfl (fun h45 => ?_) (fun h45 => ?_)
        · have hk1 : k < p.it.length := lt_cast h45
          refine a_skip ?_
          refine a_seq ?_
          refine a_block ?_
          refine a_seq ?_
          refine a_drawn [[], [0], [], [0, 1, 2], [0, 1, 2, 3], [], [5], [], [5, 6, 7], [5, 6, 7, 8], [0, 1, 2, 3, 4, 5, 6, 7, 8, 9], [0, 1, 2, 3, 4, 5, 6, 7, 8, 9, 10]] mixed rfl ?_
          refine dws ?_
          have hk2 : k < q.it.length := by omega
          have hgi := g3 _ (List.getElem_mem hk1)
          refine d_pure [2] [] rfl rfl (fun _ => gp_none (st_fieldP rfl fi67_1 rfl rfl rfl)) ?_
          refine d_pureA [48] rfl rfl (fun _ => gp_none (st_loadP rfl rfl rfl on65 rfl)) ?_
          refine d_pure [6] [] rfl rfl (fun _ => gp_none (st_move rfl rfl)) ?_
          refine d_pure [49, 50] [] rfl rfl (fun _ => gp_none (st_indexD (k) rfl rfl (rfl) (getm hk1) Try.underlying65 rfl sz26 rfl)) ?_
          refine d_pure [51] [] rfl rfl (fun _ => gp_none (st_loadDS rfl rfl rw26 rfl)) ?_
          refine d_pure [3] [] rfl rfl (fun _ => gp_none (st_fieldP rfl fi67_1 rfl rfl rfl)) ?_
          refine d_pureA [53] rfl rfl (fun _ => gp_none (st_loadP rfl rfl rfl on65 rfl)) ?_
          refine d_pure [6] [] rfl rfl (fun _ => gp_none (st_move rfl rfl)) ?_
          refine d_pure [54, 55] [] rfl rfl (fun _ => gp_none (st_indexD (k) rfl rfl (rfl) (getm hk2) Try.underlying65 rfl sz26 rfl)) ?_
          refine d_pure [56] [] rfl rfl (fun _ => gp_none (st_loadDS rfl rfl rw26 rfl)) ?_
          refine dwc 10 rfl rfl rfl ?_
          refine dw1 11 rfl rfl ?_
          refine Pstep.go (st_callP (sameitem_p p.it[k] q.it[k] hgi.1 hgi.2.1 hgi.2.2) rfl rfl) ?_
          refine o_nil ⟨rfl, ?_⟩
          refine dw1 12 rfl rfl ?_
          refine Pstep.go (st_notP rfl rfl) ?_
          refine o_nil ⟨rfl, ?_⟩
          refine dwe ?_
          refine a_if rfl (fun h59 => ?_) (fun h59 => ?_)
          · refine a_seq ?_
            refine a_region ?_
            refine Pstep.go (st_assign rfl rfl) ?_
            refine o_nil ?_
            refine a_ret ?_
            exact ⟨_, [], [], res_of rfl, rfl, rfl, retF (fun h => ne_at hk1 hk2 h59 h.2), rfl⟩
          · refine a_skip ?_
            refine a_region ?_
            refine Pstep.go (st_move rfl rfl) ?_
            refine Pstep.go (st_add rfl rfl (wrapS (k + 1) (by omega)) rfl) ?_
            refine Pstep.go (st_assign rfl rfl) ?_
            refine o_nil ?_
            exact ⟨k + 1, ⟨by show k + 1 ≤ _; omega, tk_succ hk1 hk2 hk (by simpa using h59)⟩, by show p.it.length - (k + 1) < p.it.length - k; omega, lep_of hF [1, 2] rfl (rfl) ⟨rfl, rfl, rfl, trivial⟩⟩
        · refine a_exit ?_
          refine a_seq ?_
          refine a_region ?_
          refine Pstep.go (st_assign rfl rfl) ?_
          refine o_nil ?_
          refine a_ret ?_
          exact ⟨_, [], [], res_of rfl, rfl, rfl, retT ⟨hre, tk_all hit (by have h := h45; omega) hk⟩, rfl⟩
set_option maxRecDepth 100000 in
theorem refvalid_p (r : Rsc) : PCalls Try.prog 70 [.d (rscD r)] (intD (validE r)) := by
  refine a_enter Try.func70 rfl rfl Try.ntmps70 rfl rfl rfl fun F hF => ?_
  refine a_seq ?_
  refine a_region ?_
  refine Estep.go (st_box 1 rfl rfl rfl rfl rfl rfl rfl) ?_
  refine Pstep.go (st_assign rfl rfl) ?_
  refine o_nil ?_
  refine a_seq ?_
  refine a_region ?_
  refine Pstep.go (st_fieldP rfl fi48_1 rfl rfl rfl) ?_
  refine Pstep.go (st_loadPS rfl rfl rw46 rfl rfl rfl) ?_
  refine Pstep.go (st_build zl46 pl46 rfl rfl rfl) ?_
  refine Pstep.go (st_eqlSt (la := accC r.acc) (lb := accC accZ) (ds := accT) (by kernel_rfl) (by kernel_rfl) (by kernel_rfl) rfl rfl rfl rfl (acc_plain _) (acc_plain _) (acc_eqC _ _) rfl) ?_
  refine Pstep.go (st_assign rfl rfl) ?_
  refine o_nil ?_
  refine a_seq ?_
  refine a_seq ?_
  refine a_region ?_
  refine Pstep.go (st_fieldP rfl fi48_0 rfl rfl rfl) ?_
  refine Pstep.go (st_loadP rfl rfl rfl on3 rfl) ?_
  refine o_nil ?_
  refine a_block ?_
  refine a_seq ?_
  refine a_region ?_
  refine Pstep.go (st_eql rfl rfl rfl) ?_
  refine Pstep.go (st_assign rfl rfl) ?_
  refine o_nil ?_
  refine a_if rfl (fun h10 => ?_) (fun h10 => ?_)
  · refine a_seq ?_
    refine a_region ?_
    refine Pstep.go (st_fieldP rfl fi48_1 rfl rfl rfl) ?_
    refine Pstep.go (st_fieldP rfl fi46_0 rfl rfl rfl) ?_
    refine Pstep.go (st_loadP rfl rfl rfl on9 rfl) ?_
    refine Pstep.go (st_eqlSL rfl rfl rfl) ?_
    refine Pstep.go (st_move rfl rfl) ?_
    refine o_splitP 16 rfl (fun h16 => ?_) (fun h16 => ?_)
    · refine o_pass rfl rfl rfl rfl ?_
      refine o_pass rfl rfl rfl rfl ?_
      refine o_pass rfl rfl rfl rfl ?_
      refine o_pass rfl rfl rfl rfl ?_
      refine Pstep.go (st_pickT rfl rfl rfl rfl) ?_
      refine Pstep.go (st_move rfl rfl) ?_
      refine o_pass rfl rfl rfl rfl ?_
      refine o_pass rfl rfl rfl rfl ?_
      refine o_pass rfl rfl rfl rfl ?_
      refine o_pass rfl rfl rfl rfl ?_
      refine Pstep.go (st_pickT rfl rfl rfl rfl) ?_
      refine Pstep.go (st_move rfl rfl) ?_
      refine o_pass rfl rfl rfl rfl ?_
      refine o_pass rfl rfl rfl rfl ?_
      refine o_pass rfl rfl rfl rfl ?_
      refine o_pass rfl rfl rfl rfl ?_
      refine Pstep.go (st_pickT rfl rfl rfl rfl) ?_
      refine Pstep.go (st_move rfl rfl) ?_
      refine o_pass rfl rfl rfl rfl ?_
      refine o_pass rfl rfl rfl rfl ?_
      refine o_pass rfl rfl rfl rfl ?_
      refine Pstep.go (st_pickT rfl rfl rfl rfl) ?_
      refine Pstep.go (st_move rfl rfl) ?_
      refine o_pass rfl rfl rfl rfl ?_
      refine o_pass rfl rfl rfl rfl ?_
      refine o_pass rfl rfl rfl rfl ?_
      refine Pstep.go (st_pickT rfl rfl rfl rfl) ?_
      refine o_nil ?_
      refine a_true rfl rfl ?_
      refine a_seq ?_
      refine a_region ?_
      refine Pstep.go (st_assign rfl rfl) ?_
      refine o_nil ?_
      refine a_ret ?_
      exact ⟨_, [], [], res_of rfl, rfl, rfl, retI (by unfold validE; simp_all <;> (intros; omega)), rfl⟩
    · refine o_run rfl rfl rfl ?_
      refine Pstep.go (st_fieldP rfl fi48_1 rfl rfl rfl) ?_
      refine o_run rfl rfl rfl ?_
      refine Pstep.go (st_fieldP rfl fi46_2 rfl rfl rfl) ?_
      refine o_run rfl rfl rfl ?_
      refine Pstep.go (st_loadP rfl rfl rfl on9 rfl) ?_
      refine o_run rfl rfl rfl ?_
      refine Pstep.go (st_eqlSL rfl rfl rfl) ?_
      refine Pstep.go (st_pickF rfl rfl rfl rfl) ?_
      refine Pstep.go (st_move rfl rfl) ?_
      refine o_splitP 22 rfl (fun h22 => ?_) (fun h22 => ?_)
      · refine o_pass rfl rfl rfl rfl ?_
        refine o_pass rfl rfl rfl rfl ?_
        refine o_pass rfl rfl rfl rfl ?_
        refine o_pass rfl rfl rfl rfl ?_
        refine Pstep.go (st_pickT rfl rfl rfl rfl) ?_
        refine Pstep.go (st_move rfl rfl) ?_
        refine o_pass rfl rfl rfl rfl ?_
        refine o_pass rfl rfl rfl rfl ?_
        refine o_pass rfl rfl rfl rfl ?_
        refine o_pass rfl rfl rfl rfl ?_
        refine Pstep.go (st_pickT rfl rfl rfl rfl) ?_
        refine Pstep.go (st_move rfl rfl) ?_
        refine o_pass rfl rfl rfl rfl ?_
        refine o_pass rfl rfl rfl rfl ?_
        refine o_pass rfl rfl rfl rfl ?_
        refine Pstep.go (st_pickT rfl rfl rfl rfl) ?_
        refine Pstep.go (st_move rfl rfl) ?_
        refine o_pass rfl rfl rfl rfl ?_
        refine o_pass rfl rfl rfl rfl ?_
        refine o_pass rfl rfl rfl rfl ?_
        refine Pstep.go (st_pickT rfl rfl rfl rfl) ?_
        refine o_nil ?_
        refine a_true rfl rfl ?_
        refine a_seq ?_
        refine a_region ?_
        refine Pstep.go (st_assign rfl rfl) ?_
        refine o_nil ?_
        refine a_ret ?_
        exact ⟨_, [], [], res_of rfl, rfl, rfl, retI (by unfold validE; simp_all <;> (intros; omega)), rfl⟩
      · refine o_run rfl rfl rfl ?_
        refine Pstep.go (st_fieldP rfl fi48_1 rfl rfl rfl) ?_
        refine o_run rfl rfl rfl ?_
        refine Pstep.go (st_fieldP rfl fi46_1 rfl rfl rfl) ?_
        refine o_run rfl rfl rfl ?_
        refine Pstep.go (st_loadP rfl rfl rfl on3 rfl) ?_
        refine o_run rfl rfl rfl ?_
        refine Pstep.go (st_lss rfl rfl rfl) ?_
        refine Pstep.go (st_pickF rfl rfl rfl rfl) ?_
        refine Pstep.go (st_move rfl rfl) ?_
        refine o_splitP 28 rfl (fun h28 => ?_) (fun h28 => ?_)
        · refine o_pass rfl rfl rfl rfl ?_
          refine o_pass rfl rfl rfl rfl ?_
          refine o_pass rfl rfl rfl rfl ?_
          refine o_pass rfl rfl rfl rfl ?_
          refine Pstep.go (st_pickT rfl rfl rfl rfl) ?_
          refine Pstep.go (st_move rfl rfl) ?_
          refine o_pass rfl rfl rfl rfl ?_
          refine o_pass rfl rfl rfl rfl ?_
          refine o_pass rfl rfl rfl rfl ?_
          refine Pstep.go (st_pickT rfl rfl rfl rfl) ?_
          refine Pstep.go (st_move rfl rfl) ?_
          refine o_pass rfl rfl rfl rfl ?_
          refine o_pass rfl rfl rfl rfl ?_
          refine o_pass rfl rfl rfl rfl ?_
          refine Pstep.go (st_pickT rfl rfl rfl rfl) ?_
          refine o_nil ?_
          refine a_true rfl rfl ?_
          refine a_seq ?_
          refine a_region ?_
          refine Pstep.go (st_assign rfl rfl) ?_
          refine o_nil ?_
          refine a_ret ?_
          exact ⟨_, [], [], res_of rfl, rfl, rfl, retI (by unfold validE; simp_all <;> (intros; omega)), rfl⟩
        · refine o_run rfl rfl rfl ?_
          refine Pstep.go (st_fieldP rfl fi48_1 rfl rfl rfl) ?_
          refine o_run rfl rfl rfl ?_
          refine Pstep.go (st_fieldP rfl fi46_1 rfl rfl rfl) ?_
          refine o_run rfl rfl rfl ?_
          refine Pstep.go (st_loadP rfl rfl rfl on3 rfl) ?_
          refine o_run rfl rfl rfl ?_
          refine Pstep.go (st_gtr rfl rfl rfl) ?_
          refine Pstep.go (st_pickF rfl rfl rfl rfl) ?_
          refine Pstep.go (st_move rfl rfl) ?_
          refine o_splitP 34 rfl (fun h34 => ?_) (fun h34 => ?_)
          · refine o_pass rfl rfl rfl rfl ?_
            refine o_pass rfl rfl rfl rfl ?_
            refine o_pass rfl rfl rfl rfl ?_
            refine Pstep.go (st_pickT rfl rfl rfl rfl) ?_
            refine Pstep.go (st_move rfl rfl) ?_
            refine o_pass rfl rfl rfl rfl ?_
            refine o_pass rfl rfl rfl rfl ?_
            refine o_pass rfl rfl rfl rfl ?_
            refine Pstep.go (st_pickT rfl rfl rfl rfl) ?_
            refine o_nil ?_
            refine a_true rfl rfl ?_
            refine a_seq ?_
            refine a_region ?_
            refine Pstep.go (st_assign rfl rfl) ?_
            refine o_nil ?_
            refine a_ret ?_
            exact ⟨_, [], [], res_of rfl, rfl, rfl, retI (by unfold validE; simp_all <;> (intros; omega)), rfl⟩
          · refine o_run rfl rfl rfl ?_
            refine Pstep.go (st_fieldP rfl fi48_2 rfl rfl rfl) ?_
            refine o_run rfl rfl rfl ?_
            refine Pstep.go (st_loadP rfl rfl rfl on9 rfl) ?_
            refine o_run rfl rfl rfl ?_
            refine Pstep.go (st_neqSL rfl rfl rfl) ?_
            refine Pstep.go (st_pickF rfl rfl rfl rfl) ?_
            refine Pstep.go (st_move rfl rfl) ?_
            refine o_splitP 39 rfl (fun h39 => ?_) (fun h39 => ?_)
            · refine o_pass rfl rfl rfl rfl ?_
              refine o_pass rfl rfl rfl rfl ?_
              refine o_pass rfl rfl rfl rfl ?_
              refine Pstep.go (st_pickT rfl rfl rfl rfl) ?_
              refine o_nil ?_
              refine a_true rfl rfl ?_
              refine a_seq ?_
              refine a_region ?_
              refine Pstep.go (st_assign rfl rfl) ?_
              refine o_nil ?_
              refine a_ret ?_
              exact ⟨_, [], [], res_of rfl, rfl, rfl, retI (by unfold validE; simp_all <;> (intros; omega)), rfl⟩
            · refine o_run rfl rfl rfl ?_
              refine Pstep.go (st_fieldP rfl fi48_3 rfl rfl rfl) ?_
              refine o_run rfl rfl rfl ?_
              refine Pstep.go (st_loadP rfl rfl rfl on9 rfl) ?_
              refine o_run rfl rfl rfl ?_
              refine Pstep.go (st_neqSL rfl rfl rfl) ?_
              refine Pstep.go (st_pickF rfl rfl rfl rfl) ?_
              refine o_nil ?_
              refine a_if rfl (fun h43 => ?_) (fun h43 => ?_)
              · refine a_seq ?_
                refine a_region ?_
                refine Pstep.go (st_assign rfl rfl) ?_
                refine o_nil ?_
                refine a_ret ?_
                exact ⟨_, [], [], res_of rfl, rfl, rfl, retI (by unfold validE; simp_all <;> (intros; omega)), rfl⟩
              · refine a_skip ?_
                refine a_seq ?_
                refine a_region ?_
                refine Pstep.go (st_assign rfl rfl) ?_
                refine o_nil ?_
                refine a_ret ?_
                exact ⟨_, [], [], res_of rfl, rfl, rfl, retI (by unfold validE; simp_all <;> (intros; omega)), rfl⟩
  · refine a_seq ?_
    refine a_region ?_
    refine Pstep.go (st_eql rfl rfl rfl) ?_
    refine Pstep.go (st_assign rfl rfl) ?_
    refine o_nil ?_
    refine a_if rfl (fun h44 => ?_) (fun h44 => ?_)
    · refine a_seq ?_
      refine a_region ?_
      refine Pstep.go (st_move rfl rfl) ?_
      refine Pstep.go (st_notP rfl rfl) ?_
      refine Pstep.go (st_move rfl rfl) ?_
      refine o_splitP 48 rfl (fun h48 => ?_) (fun h48 => ?_)
      · refine o_pass rfl rfl rfl rfl ?_
        refine o_pass rfl rfl rfl rfl ?_
        refine o_pass rfl rfl rfl rfl ?_
        refine Pstep.go (st_pickT rfl rfl rfl rfl) ?_
        refine Pstep.go (st_move rfl rfl) ?_
        refine o_pass rfl rfl rfl rfl ?_
        refine o_pass rfl rfl rfl rfl ?_
        refine o_pass rfl rfl rfl rfl ?_
        refine Pstep.go (st_pickT rfl rfl rfl rfl) ?_
        refine Pstep.go (st_move rfl rfl) ?_
        refine o_pass rfl rfl rfl rfl ?_
        refine o_pass rfl rfl rfl rfl ?_
        refine o_pass rfl rfl rfl rfl ?_
        refine o_pass rfl rfl rfl rfl ?_
        refine o_pass rfl rfl rfl rfl ?_
        refine Pstep.go (st_pickT rfl rfl rfl rfl) ?_
        refine o_nil ?_
        refine a_true rfl rfl ?_
        refine a_seq ?_
        refine a_region ?_
        refine Pstep.go (st_assign rfl rfl) ?_
        refine o_nil ?_
        refine a_ret ?_
        exact ⟨_, [], [], res_of rfl, rfl, rfl, retI (by unfold validE; simp_all <;> (intros; omega)), rfl⟩
      · refine o_run rfl rfl rfl ?_
        refine Pstep.go (st_fieldP rfl fi48_2 rfl rfl rfl) ?_
        refine o_run rfl rfl rfl ?_
        refine Pstep.go (st_loadP rfl rfl rfl on9 rfl) ?_
        refine o_run rfl rfl rfl ?_
        refine Pstep.go (st_eqlSL rfl rfl rfl) ?_
        refine Pstep.go (st_pickF rfl rfl rfl rfl) ?_
        refine Pstep.go (st_move rfl rfl) ?_
        refine o_splitP 53 rfl (fun h53 => ?_) (fun h53 => ?_)
        · refine o_pass rfl rfl rfl rfl ?_
          refine o_pass rfl rfl rfl rfl ?_
          refine o_pass rfl rfl rfl rfl ?_
          refine Pstep.go (st_pickT rfl rfl rfl rfl) ?_
          refine Pstep.go (st_move rfl rfl) ?_
          refine o_pass rfl rfl rfl rfl ?_
          refine o_pass rfl rfl rfl rfl ?_
          refine o_pass rfl rfl rfl rfl ?_
          refine o_pass rfl rfl rfl rfl ?_
          refine o_pass rfl rfl rfl rfl ?_
          refine Pstep.go (st_pickT rfl rfl rfl rfl) ?_
          refine o_nil ?_
          refine a_true rfl rfl ?_
          refine a_seq ?_
          refine a_region ?_
          refine Pstep.go (st_assign rfl rfl) ?_
          refine o_nil ?_
          refine a_ret ?_
          exact ⟨_, [], [], res_of rfl, rfl, rfl, retI (by unfold validE; simp_all <;> (intros; omega)), rfl⟩
        · refine o_run rfl rfl rfl ?_
          refine Pstep.go (st_fieldP rfl fi48_3 rfl rfl rfl) ?_
          refine o_run rfl rfl rfl ?_
          refine Pstep.go (st_loadP rfl rfl rfl on9 rfl) ?_
          refine o_run rfl rfl rfl ?_
          refine Pstep.go (st_eqlSL rfl rfl rfl) ?_
          refine Pstep.go (st_pickF rfl rfl rfl rfl) ?_
          refine Pstep.go (st_move rfl rfl) ?_
          refine o_splitP 58 rfl (fun h58 => ?_) (fun h58 => ?_)
          · refine o_pass rfl rfl rfl rfl ?_
            refine o_pass rfl rfl rfl rfl ?_
            refine o_pass rfl rfl rfl rfl ?_
            refine o_pass rfl rfl rfl rfl ?_
            refine o_pass rfl rfl rfl rfl ?_
            refine Pstep.go (st_pickT rfl rfl rfl rfl) ?_
            refine o_nil ?_
            refine a_true rfl rfl ?_
            refine a_seq ?_
            refine a_region ?_
            refine Pstep.go (st_assign rfl rfl) ?_
            refine o_nil ?_
            refine a_ret ?_
            exact ⟨_, [], [], res_of rfl, rfl, rfl, retI (by unfold validE; simp_all <;> (intros; omega)), rfl⟩
          · refine o_run rfl rfl rfl ?_
            refine Pstep.go (st_fieldP rfl fi48_2 rfl rfl rfl) ?_
            refine o_run rfl rfl rfl ?_
            refine Pstep.go (st_loadP rfl rfl rfl on9 rfl) ?_
            refine o_run rfl rfl rfl ?_
            refine Pstep.go (st_fieldP rfl fi48_3 rfl rfl rfl) ?_
            refine o_run rfl rfl rfl ?_
            refine Pstep.go (st_loadP rfl rfl rfl on9 rfl) ?_
            refine o_run rfl rfl rfl ?_
            refine Pstep.go (st_eqlSL rfl rfl rfl) ?_
            refine Pstep.go (st_pickF rfl rfl rfl rfl) ?_
            refine o_nil ?_
            refine a_if rfl (fun h64 => ?_) (fun h64 => ?_)
            · refine a_seq ?_
              refine a_region ?_
              refine Pstep.go (st_assign rfl rfl) ?_
              refine o_nil ?_
              refine a_ret ?_
              exact ⟨_, [], [], res_of rfl, rfl, rfl, retI (by unfold validE; simp_all <;> (intros; omega)), rfl⟩
            · refine a_skip ?_
              refine a_seq ?_
              refine a_region ?_
              refine Pstep.go (st_assign rfl rfl) ?_
              refine o_nil ?_
              refine a_ret ?_
              exact ⟨_, [], [], res_of rfl, rfl, rfl, retI (by unfold validE; simp_all <;> (intros; omega)), rfl⟩
    · refine a_seq ?_
      refine a_region ?_
      refine Pstep.go (st_eql rfl rfl rfl) ?_
      refine Pstep.go (st_assign rfl rfl) ?_
      refine o_nil ?_
      refine a_if rfl (fun h65 => ?_) (fun h65 => ?_)
      · refine a_seq ?_
        refine a_region ?_
        refine Pstep.go (st_move rfl rfl) ?_
        refine Pstep.go (st_notP rfl rfl) ?_
        refine Pstep.go (st_move rfl rfl) ?_
        refine o_splitP 69 rfl (fun h69 => ?_) (fun h69 => ?_)
        · refine o_pass rfl rfl rfl rfl ?_
          refine o_pass rfl rfl rfl rfl ?_
          refine o_pass rfl rfl rfl rfl ?_
          refine Pstep.go (st_pickT rfl rfl rfl rfl) ?_
          refine Pstep.go (st_move rfl rfl) ?_
          refine o_pass rfl rfl rfl rfl ?_
          refine o_pass rfl rfl rfl rfl ?_
          refine o_pass rfl rfl rfl rfl ?_
          refine Pstep.go (st_pickT rfl rfl rfl rfl) ?_
          refine o_nil ?_
          refine a_true rfl rfl ?_
          refine a_seq ?_
          refine a_region ?_
          refine Pstep.go (st_assign rfl rfl) ?_
          refine o_nil ?_
          refine a_ret ?_
          exact ⟨_, [], [], res_of rfl, rfl, rfl, retI (by unfold validE; simp_all <;> (intros; omega)), rfl⟩
        · refine o_run rfl rfl rfl ?_
          refine Pstep.go (st_fieldP rfl fi48_2 rfl rfl rfl) ?_
          refine o_run rfl rfl rfl ?_
          refine Pstep.go (st_loadP rfl rfl rfl on9 rfl) ?_
          refine o_run rfl rfl rfl ?_
          refine Pstep.go (st_eqlSL rfl rfl rfl) ?_
          refine Pstep.go (st_pickF rfl rfl rfl rfl) ?_
          refine Pstep.go (st_move rfl rfl) ?_
          refine o_splitP 74 rfl (fun h74 => ?_) (fun h74 => ?_)
          · refine o_pass rfl rfl rfl rfl ?_
            refine o_pass rfl rfl rfl rfl ?_
            refine o_pass rfl rfl rfl rfl ?_
            refine Pstep.go (st_pickT rfl rfl rfl rfl) ?_
            refine o_nil ?_
            refine a_true rfl rfl ?_
            refine a_seq ?_
            refine a_region ?_
            refine Pstep.go (st_assign rfl rfl) ?_
            refine o_nil ?_
            refine a_ret ?_
            exact ⟨_, [], [], res_of rfl, rfl, rfl, retI (by unfold validE; simp_all <;> (intros; omega)), rfl⟩
          · refine o_run rfl rfl rfl ?_
            refine Pstep.go (st_fieldP rfl fi48_3 rfl rfl rfl) ?_
            refine o_run rfl rfl rfl ?_
            refine Pstep.go (st_loadP rfl rfl rfl on9 rfl) ?_
            refine o_run rfl rfl rfl ?_
            refine Pstep.go (st_neqSL rfl rfl rfl) ?_
            refine Pstep.go (st_pickF rfl rfl rfl rfl) ?_
            refine o_nil ?_
            refine a_if rfl (fun h78 => ?_) (fun h78 => ?_)
            · refine a_seq ?_
              refine a_region ?_
              refine Pstep.go (st_assign rfl rfl) ?_
              refine o_nil ?_
              refine a_ret ?_
              exact ⟨_, [], [], res_of rfl, rfl, rfl, retI (by unfold validE; simp_all <;> (intros; omega)), rfl⟩
            · refine a_skip ?_
              refine a_seq ?_
              refine a_region ?_
              refine Pstep.go (st_assign rfl rfl) ?_
              refine o_nil ?_
              refine a_ret ?_
              exact ⟨_, [], [], res_of rfl, rfl, rfl, retI (by unfold validE; simp_all <;> (intros; omega)), rfl⟩
      · refine a_seq ?_
        refine a_region ?_
        refine Pstep.go (st_assign rfl rfl) ?_
        refine o_nil ?_
        refine a_ret ?_
        exact ⟨_, [], [], res_of rfl, rfl, rfl, retI (by unfold validE; simp_all <;> (intros; omega)), rfl⟩
theorem flt_snoc {α : Type} {p : α → Bool} {l : List α} {k : Nat} (hk : k < l.length) : (l.take (k + 1)).filter p = (l.take k).filter p ++ (if p l[k] then [l[k]] else []) := by
  rw [List.take_succ_eq_append_getElem hk, List.filter_append]
  congr 1
  rw [List.filter_cons, List.filter_nil]
end Go.Proofs.Ytfmpiabmnjmobaa
