/- Layer 28: Equal; the laws of Totals and of settling twice. -/
import Derived.Test.YtfmpiabmnjmobaaTot6
namespace Go.Proofs.Ytfmpiabmnjmobaa
open Go.RowKit

set_option maxRecDepth 100000 in
theorem eqlRoo_p (a b : List Roo) (hl : a.length ≤ 100000000) : PCalls Try.prog 83 [.d (.sl none (a.map rooD)), .d (.sl none (b.map rooD))] (boolD (decide (a = b))) := by
  refine a_enter Try.func83 rfl rfl Try.ntmps83 rfl rfl rfl fun F hF => ?_
  refine a_seq ?_
  refine a_region ?_
  refine Pstep.go (st_assign rfl rfl) ?_
  refine o_nil ?_
  refine a_seq ?_
  refine a_seq ?_
  refine a_region ?_
  refine Pstep.go (st_move rfl rfl) ?_
  refine Pstep.go (st_lenMap rfl Try.underlying69 rfl) ?_
  refine Pstep.go (st_move rfl rfl) ?_
  refine Pstep.go (st_lenMap rfl Try.underlying69 rfl) ?_
  refine Pstep.go (st_neq rfl rfl rfl) ?_
  refine o_nil ?_
  refine a_if rfl (fun h10 => ?_) (fun h10 => ?_)
  · refine a_seq ?_
    refine a_region ?_
    refine Pstep.go (st_assign rfl rfl) ?_
    refine o_nil ?_
    refine a_ret ?_
    exact ⟨_, [], [], res_of rfl, rfl, rfl, retF (fun h => h10 (by rw [h])), rfl⟩
  · refine a_skip ?_
    refine a_seq ?_
    refine a_seq ?_
    have hlen : a.length = b.length := by omega
    refine a_region ?_
    refine Pstep.go (st_move rfl rfl) ?_
    refine Pstep.go (st_lenMap rfl Try.underlying69 rfl) ?_
    refine Pstep.go (st_move rfl rfl) ?_
    refine o_nil ?_
    refine a_block ?_
    refine a_loop (α := Nat) (fun k => ⟨26, [(0, .d (.sl none (a.map rooD))), (1, .d (.sl none (b.map rooD))), (12, (.d (intD (a.length : Int)))), (13, (.d (intD (k : Int))))], []⟩) (fun k => k ≤ a.length ∧ a.take k = b.take k) (fun k => a.length - k) (0) (⟨Nat.zero_le _, by simp⟩) (le_of_has ⟨rfl, rfl, rfl, rfl, trivial⟩) ?_
    rintro k ⟨hk0, hk⟩
    refine a_seq ?_
    refine a_region ?_
    refine Pstep.go (st_lss rfl rfl rfl) ?_
    refine o_nil ?_
    refine a_seq ?_
    refine a_if rfl (fun h14 => ?_) (fun h14 => ?_)
    · have hk1 : k < a.length := lt_cast h14
      refine a_skip ?_
      refine a_seq ?_
      refine a_block ?_
      refine a_seq ?_
      have hk2 : k < b.length := by omega
      refine a_region ?_
      refine Pstep.go (st_move rfl rfl) ?_
      refine Pstep.go (st_assign rfl rfl) ?_
      refine o_nil ?_
      refine a_seq ?_
      refine a_drawn [[], [], [0, 1], [0, 1, 2], [], [], [4, 5], [4, 5, 6], [0, 1, 2, 3, 4, 5, 6, 7]] mixed rfl ?_
      refine dws ?_
      refine d_pure [0] [] rfl rfl (fun _ => gp_none (st_move rfl rfl)) ?_
      refine d_pure [5] [] rfl rfl (fun _ => gp_none (st_move rfl rfl)) ?_
      refine d_pure [16, 17] [] rfl rfl (fun _ => gp_none (st_indexD (k) rfl rfl (rfl) (getm hk1) Try.underlying69 rfl sz124 rfl)) ?_
      refine d_pure [18] [] rfl rfl (fun _ => gp_none (st_loadDS rfl rfl rw124 rfl)) ?_
      refine d_pure [1] [] rfl rfl (fun _ => gp_none (st_move rfl rfl)) ?_
      refine d_pure [5] [] rfl rfl (fun _ => gp_none (st_move rfl rfl)) ?_
      refine d_pure [20, 21] [] rfl rfl (fun _ => gp_none (st_indexD (k) rfl rfl (rfl) (getm hk2) Try.underlying69 rfl sz124 rfl)) ?_
      refine d_pure [22] [] rfl rfl (fun _ => gp_none (st_loadDS rfl rfl rw124 rfl)) ?_
      refine dwc 8 rfl rfl rfl ?_
      refine dw1 9 rfl rfl ?_
      refine Pstep.go (st_neqSt (la := rooC a[k]) (lb := rooC b[k]) (ds := rooT) (by kernel_rfl) (by kernel_rfl) (by kernel_rfl) rfl rfl rfl rfl (roo_plain _) (roo_plain _) (neC (roo_eqC _ _)) rfl) ?_
      refine o_nil ⟨rfl, ?_⟩
      refine dwe ?_
      refine a_if rfl (fun h24 => ?_) (fun h24 => ?_)
      · refine a_seq ?_
        refine a_region ?_
        refine Pstep.go (st_assign rfl rfl) ?_
        refine o_nil ?_
        refine a_ret ?_
        exact ⟨_, [], [], res_of rfl, rfl, rfl, retF (fun h => ne_at hk1 hk2 h24 h), rfl⟩
      · refine a_skip ?_
        refine a_region ?_
        refine Pstep.go (st_add rfl rfl (wrapS (k + 1) (by omega)) rfl) ?_
        refine Pstep.go (st_move rfl rfl) ?_
        refine o_nil ?_
        exact ⟨k + 1, ⟨by show k + 1 ≤ _; omega, tk_succ hk1 hk2 hk (by simpa using h24)⟩, by show a.length - (k + 1) < a.length - k; omega, ⟨rfl, rfl, fun _ _ => Has.get (l := [(0, _), (1, _), (12, _), (13, _)]) ⟨rfl, rfl, rfl, rfl, trivial⟩⟩⟩
    · refine a_exit ?_
      refine a_seq ?_
      refine a_region ?_
      refine Pstep.go (st_assign rfl rfl) ?_
      refine o_nil ?_
      refine a_ret ?_
      exact ⟨_, [], [], res_of rfl, rfl, rfl, retT (tk_all hlen (by have h := h14; omega) hk), rfl⟩
set_option maxRecDepth 100000 in
theorem eqlPost_p (a b : List Post) (hl : a.length ≤ 100000000) : PCalls Try.prog 86 [.d (.sl none (a.map postD)), .d (.sl none (b.map postD))] (boolD (decide (a = b))) := by
  refine a_enter Try.func86 rfl rfl Try.ntmps86 rfl rfl rfl fun F hF => ?_
  refine a_seq ?_
  refine a_region ?_
  refine Pstep.go (st_assign rfl rfl) ?_
  refine o_nil ?_
  refine a_seq ?_
  refine a_seq ?_
  refine a_region ?_
  refine Pstep.go (st_move rfl rfl) ?_
  refine Pstep.go (st_lenMap rfl Try.underlying30 rfl) ?_
  refine Pstep.go (st_move rfl rfl) ?_
  refine Pstep.go (st_lenMap rfl Try.underlying30 rfl) ?_
  refine Pstep.go (st_neq rfl rfl rfl) ?_
  refine o_nil ?_
  refine a_if rfl (fun h10 => ?_) (fun h10 => ?_)
  · refine a_seq ?_
    refine a_region ?_
    refine Pstep.go (st_assign rfl rfl) ?_
    refine o_nil ?_
    refine a_ret ?_
    exact ⟨_, [], [], res_of rfl, rfl, rfl, retF (fun h => h10 (by rw [h])), rfl⟩
  · refine a_skip ?_
    refine a_seq ?_
    refine a_seq ?_
    have hlen : a.length = b.length := by omega
    refine a_region ?_
    refine Pstep.go (st_move rfl rfl) ?_
    refine Pstep.go (st_lenMap rfl Try.underlying30 rfl) ?_
    refine Pstep.go (st_move rfl rfl) ?_
    refine o_nil ?_
    refine a_block ?_
    refine a_loop (α := Nat) (fun k => ⟨26, [(0, .d (.sl none (a.map postD))), (1, .d (.sl none (b.map postD))), (12, (.d (intD (a.length : Int)))), (13, (.d (intD (k : Int))))], []⟩) (fun k => k ≤ a.length ∧ a.take k = b.take k) (fun k => a.length - k) (0) (⟨Nat.zero_le _, by simp⟩) (le_of_has ⟨rfl, rfl, rfl, rfl, trivial⟩) ?_
    rintro k ⟨hk0, hk⟩
    refine a_seq ?_
    refine a_region ?_
    refine Pstep.go (st_lss rfl rfl rfl) ?_
    refine o_nil ?_
    refine a_seq ?_
    refine a_if rfl (fun h14 => ?_) (fun h14 => ?_)
    · have hk1 : k < a.length := lt_cast h14
      refine a_skip ?_
      refine a_seq ?_
      refine a_block ?_
      refine a_seq ?_
      have hk2 : k < b.length := by omega
      refine a_region ?_
      refine Pstep.go (st_move rfl rfl) ?_
      refine Pstep.go (st_assign rfl rfl) ?_
      refine o_nil ?_
      refine a_seq ?_
      refine a_drawn [[], [], [0, 1], [0, 1, 2], [], [], [4, 5], [4, 5, 6], [0, 1, 2, 3, 4, 5, 6, 7]] mixed rfl ?_
      refine dws ?_
      refine d_pure [0] [] rfl rfl (fun _ => gp_none (st_move rfl rfl)) ?_
      refine d_pure [5] [] rfl rfl (fun _ => gp_none (st_move rfl rfl)) ?_
      refine d_pure [16, 17] [] rfl rfl (fun _ => gp_none (st_indexD (k) rfl rfl (rfl) (getm hk1) Try.underlying30 rfl sz106 rfl)) ?_
      refine d_pure [18] [] rfl rfl (fun _ => gp_none (st_loadDS rfl rfl rw106 rfl)) ?_
      refine d_pure [1] [] rfl rfl (fun _ => gp_none (st_move rfl rfl)) ?_
      refine d_pure [5] [] rfl rfl (fun _ => gp_none (st_move rfl rfl)) ?_
      refine d_pure [20, 21] [] rfl rfl (fun _ => gp_none (st_indexD (k) rfl rfl (rfl) (getm hk2) Try.underlying30 rfl sz106 rfl)) ?_
      refine d_pure [22] [] rfl rfl (fun _ => gp_none (st_loadDS rfl rfl rw106 rfl)) ?_
      refine dwc 8 rfl rfl rfl ?_
      refine dw1 9 rfl rfl ?_
      refine Pstep.go (st_neqSt (la := postC a[k]) (lb := postC b[k]) (ds := postT) (by kernel_rfl) (by kernel_rfl) (by kernel_rfl) rfl rfl rfl rfl (post_plain _) (post_plain _) (neC (post_eqC _ _)) rfl) ?_
      refine o_nil ⟨rfl, ?_⟩
      refine dwe ?_
      refine a_if rfl (fun h24 => ?_) (fun h24 => ?_)
      · refine a_seq ?_
        refine a_region ?_
        refine Pstep.go (st_assign rfl rfl) ?_
        refine o_nil ?_
        refine a_ret ?_
        exact ⟨_, [], [], res_of rfl, rfl, rfl, retF (fun h => ne_at hk1 hk2 h24 h), rfl⟩
      · refine a_skip ?_
        refine a_region ?_
        refine Pstep.go (st_add rfl rfl (wrapS (k + 1) (by omega)) rfl) ?_
        refine Pstep.go (st_move rfl rfl) ?_
        refine o_nil ?_
        exact ⟨k + 1, ⟨by show k + 1 ≤ _; omega, tk_succ hk1 hk2 hk (by simpa using h24)⟩, by show a.length - (k + 1) < a.length - k; omega, ⟨rfl, rfl, fun _ _ => Has.get (l := [(0, _), (1, _), (12, _), (13, _)]) ⟨rfl, rfl, rfl, rfl, trivial⟩⟩⟩
    · refine a_exit ?_
      refine a_seq ?_
      refine a_region ?_
      refine Pstep.go (st_assign rfl rfl) ?_
      refine o_nil ?_
      refine a_ret ?_
      exact ⟨_, [], [], res_of rfl, rfl, rfl, retT (tk_all hlen (by have h := h14; omega) hk), rfl⟩
set_option maxRecDepth 100000 in
theorem eqlPay_p (a b : List Pay) (hl : a.length ≤ 100000000) : PCalls Try.prog 87 [.d (.sl none (a.map payD)), .d (.sl none (b.map payD))] (boolD (decide (a = b))) := by
  refine a_enter Try.func87 rfl rfl Try.ntmps87 rfl rfl rfl fun F hF => ?_
  refine a_seq ?_
  refine a_region ?_
  refine Pstep.go (st_assign rfl rfl) ?_
  refine o_nil ?_
  refine a_seq ?_
  refine a_seq ?_
  refine a_region ?_
  refine Pstep.go (st_move rfl rfl) ?_
  refine Pstep.go (st_lenMap rfl Try.underlying31 rfl) ?_
  refine Pstep.go (st_move rfl rfl) ?_
  refine Pstep.go (st_lenMap rfl Try.underlying31 rfl) ?_
  refine Pstep.go (st_neq rfl rfl rfl) ?_
  refine o_nil ?_
  refine a_if rfl (fun h10 => ?_) (fun h10 => ?_)
  · refine a_seq ?_
    refine a_region ?_
    refine Pstep.go (st_assign rfl rfl) ?_
    refine o_nil ?_
    refine a_ret ?_
    exact ⟨_, [], [], res_of rfl, rfl, rfl, retF (fun h => h10 (by rw [h])), rfl⟩
  · refine a_skip ?_
    refine a_seq ?_
    refine a_seq ?_
    have hlen : a.length = b.length := by omega
    refine a_region ?_
    refine Pstep.go (st_move rfl rfl) ?_
    refine Pstep.go (st_lenMap rfl Try.underlying31 rfl) ?_
    refine Pstep.go (st_move rfl rfl) ?_
    refine o_nil ?_
    refine a_block ?_
    refine a_loop (α := Nat) (fun k => ⟨26, [(0, .d (.sl none (a.map payD))), (1, .d (.sl none (b.map payD))), (12, (.d (intD (a.length : Int)))), (13, (.d (intD (k : Int))))], []⟩) (fun k => k ≤ a.length ∧ a.take k = b.take k) (fun k => a.length - k) (0) (⟨Nat.zero_le _, by simp⟩) (le_of_has ⟨rfl, rfl, rfl, rfl, trivial⟩) ?_
    rintro k ⟨hk0, hk⟩
    refine a_seq ?_
    refine a_region ?_
    refine Pstep.go (st_lss rfl rfl rfl) ?_
    refine o_nil ?_
    refine a_seq ?_
    refine a_if rfl (fun h14 => ?_) (fun h14 => ?_)
    · have hk1 : k < a.length := lt_cast h14
      refine a_skip ?_
      refine a_seq ?_
      refine a_block ?_
      refine a_seq ?_
      have hk2 : k < b.length := by omega
      refine a_region ?_
      refine Pstep.go (st_move rfl rfl) ?_
      refine Pstep.go (st_assign rfl rfl) ?_
      refine o_nil ?_
      refine a_seq ?_
      refine a_drawn [[], [], [0, 1], [0, 1, 2], [], [], [4, 5], [4, 5, 6], [0, 1, 2, 3, 4, 5, 6, 7]] mixed rfl ?_
      refine dws ?_
      refine d_pure [0] [] rfl rfl (fun _ => gp_none (st_move rfl rfl)) ?_
      refine d_pure [5] [] rfl rfl (fun _ => gp_none (st_move rfl rfl)) ?_
      refine d_pure [16, 17] [] rfl rfl (fun _ => gp_none (st_indexD (k) rfl rfl (rfl) (getm hk1) Try.underlying31 rfl sz108 rfl)) ?_
      refine d_pure [18] [] rfl rfl (fun _ => gp_none (st_loadDS rfl rfl rw108 rfl)) ?_
      refine d_pure [1] [] rfl rfl (fun _ => gp_none (st_move rfl rfl)) ?_
      refine d_pure [5] [] rfl rfl (fun _ => gp_none (st_move rfl rfl)) ?_
      refine d_pure [20, 21] [] rfl rfl (fun _ => gp_none (st_indexD (k) rfl rfl (rfl) (getm hk2) Try.underlying31 rfl sz108 rfl)) ?_
      refine d_pure [22] [] rfl rfl (fun _ => gp_none (st_loadDS rfl rfl rw108 rfl)) ?_
      refine dwc 8 rfl rfl rfl ?_
      refine dw1 9 rfl rfl ?_
      refine Pstep.go (st_neqSt (la := payC a[k]) (lb := payC b[k]) (ds := payT) (by kernel_rfl) (by kernel_rfl) (by kernel_rfl) rfl rfl rfl rfl (pay_plain _) (pay_plain _) (neC (pay_eqC _ _)) rfl) ?_
      refine o_nil ⟨rfl, ?_⟩
      refine dwe ?_
      refine a_if rfl (fun h24 => ?_) (fun h24 => ?_)
      · refine a_seq ?_
        refine a_region ?_
        refine Pstep.go (st_assign rfl rfl) ?_
        refine o_nil ?_
        refine a_ret ?_
        exact ⟨_, [], [], res_of rfl, rfl, rfl, retF (fun h => ne_at hk1 hk2 h24 h), rfl⟩
      · refine a_skip ?_
        refine a_region ?_
        refine Pstep.go (st_add rfl rfl (wrapS (k + 1) (by omega)) rfl) ?_
        refine Pstep.go (st_move rfl rfl) ?_
        refine o_nil ?_
        exact ⟨k + 1, ⟨by show k + 1 ≤ _; omega, tk_succ hk1 hk2 hk (by simpa using h24)⟩, by show a.length - (k + 1) < a.length - k; omega, ⟨rfl, rfl, fun _ _ => Has.get (l := [(0, _), (1, _), (12, _), (13, _)]) ⟨rfl, rfl, rfl, rfl, trivial⟩⟩⟩
    · refine a_exit ?_
      refine a_seq ?_
      refine a_region ?_
      refine Pstep.go (st_assign rfl rfl) ?_
      refine o_nil ?_
      refine a_ret ?_
      exact ⟨_, [], [], res_of rfl, rfl, rfl, retT (tk_all hlen (by have h := h14; omega) hk), rfl⟩
set_option maxRecDepth 100000 in
theorem eqlInt_p (a b : List Int) (hl : a.length ≤ 100000000) : PCalls Try.prog 88 [.d (.sl none (a.map intD)), .d (.sl none (b.map intD))] (boolD (decide (a = b))) := by
  refine a_enter Try.func88 rfl rfl Try.ntmps88 rfl rfl rfl fun F hF => ?_
  refine a_seq ?_
  refine a_region ?_
  refine Pstep.go (st_assign rfl rfl) ?_
  refine o_nil ?_
  refine a_seq ?_
  refine a_seq ?_
  refine a_region ?_
  refine Pstep.go (st_move rfl rfl) ?_
  refine Pstep.go (st_lenMap rfl Try.underlying24 rfl) ?_
  refine Pstep.go (st_move rfl rfl) ?_
  refine Pstep.go (st_lenMap rfl Try.underlying24 rfl) ?_
  refine Pstep.go (st_neq rfl rfl rfl) ?_
  refine o_nil ?_
  refine a_if rfl (fun h10 => ?_) (fun h10 => ?_)
  · refine a_seq ?_
    refine a_region ?_
    refine Pstep.go (st_assign rfl rfl) ?_
    refine o_nil ?_
    refine a_ret ?_
    exact ⟨_, [], [], res_of rfl, rfl, rfl, retF (fun h => h10 (by rw [h])), rfl⟩
  · refine a_skip ?_
    refine a_seq ?_
    refine a_seq ?_
    have hlen : a.length = b.length := by omega
    refine a_region ?_
    refine Pstep.go (st_move rfl rfl) ?_
    refine Pstep.go (st_lenMap rfl Try.underlying24 rfl) ?_
    refine Pstep.go (st_move rfl rfl) ?_
    refine o_nil ?_
    refine a_block ?_
    refine a_loop (α := Nat) (fun k => ⟨26, [(0, .d (.sl none (a.map intD))), (1, .d (.sl none (b.map intD))), (12, (.d (intD (a.length : Int)))), (13, (.d (intD (k : Int))))], []⟩) (fun k => k ≤ a.length ∧ a.take k = b.take k) (fun k => a.length - k) (0) (⟨Nat.zero_le _, by simp⟩) (le_of_has ⟨rfl, rfl, rfl, rfl, trivial⟩) ?_
    rintro k ⟨hk0, hk⟩
    refine a_seq ?_
    refine a_region ?_
    refine Pstep.go (st_lss rfl rfl rfl) ?_
    refine o_nil ?_
    refine a_seq ?_
    refine a_if rfl (fun h14 => ?_) (fun h14 => ?_)
    · have hk1 : k < a.length := lt_cast h14
      refine a_skip ?_
      refine a_seq ?_
      refine a_block ?_
      refine a_seq ?_
      have hk2 : k < b.length := by omega
      refine a_region ?_
      refine Pstep.go (st_move rfl rfl) ?_
      refine Pstep.go (st_assign rfl rfl) ?_
      refine o_nil ?_
      refine a_seq ?_
      refine a_drawn [[], [], [0, 1], [0, 1, 2], [], [], [4, 5], [4, 5, 6], [0, 1, 2, 3, 4, 5, 6, 7]] mixed rfl ?_
      refine dws ?_
      refine d_pure [0] [] rfl rfl (fun _ => gp_none (st_move rfl rfl)) ?_
      refine d_pure [5] [] rfl rfl (fun _ => gp_none (st_move rfl rfl)) ?_
      refine d_pure [16, 17] [] rfl rfl (fun _ => gp_none (st_indexD (k) rfl rfl (rfl) (getm hk1) Try.underlying24 rfl sz3 rfl)) ?_
      refine d_pure [18] [] rfl rfl (fun _ => gp_none (st_loadD1 rfl rfl on3 rfl)) ?_
      refine d_pure [1] [] rfl rfl (fun _ => gp_none (st_move rfl rfl)) ?_
      refine d_pure [5] [] rfl rfl (fun _ => gp_none (st_move rfl rfl)) ?_
      refine d_pure [20, 21] [] rfl rfl (fun _ => gp_none (st_indexD (k) rfl rfl (rfl) (getm hk2) Try.underlying24 rfl sz3 rfl)) ?_
      refine d_pure [22] [] rfl rfl (fun _ => gp_none (st_loadD1 rfl rfl on3 rfl)) ?_
      refine dwc 8 rfl rfl rfl ?_
      refine dw1 9 rfl rfl ?_
      refine Pstep.go (st_neq rfl rfl rfl) ?_
      refine o_nil ⟨rfl, ?_⟩
      refine dwe ?_
      refine a_if rfl (fun h24 => ?_) (fun h24 => ?_)
      · refine a_seq ?_
        refine a_region ?_
        refine Pstep.go (st_assign rfl rfl) ?_
        refine o_nil ?_
        refine a_ret ?_
        exact ⟨_, [], [], res_of rfl, rfl, rfl, retF (fun h => ne_at hk1 hk2 h24 h), rfl⟩
      · refine a_skip ?_
        refine a_region ?_
        refine Pstep.go (st_add rfl rfl (wrapS (k + 1) (by omega)) rfl) ?_
        refine Pstep.go (st_move rfl rfl) ?_
        refine o_nil ?_
        exact ⟨k + 1, ⟨by show k + 1 ≤ _; omega, tk_succ hk1 hk2 hk (by simpa using h24)⟩, by show a.length - (k + 1) < a.length - k; omega, ⟨rfl, rfl, fun _ _ => Has.get (l := [(0, _), (1, _), (12, _), (13, _)]) ⟨rfl, rfl, rfl, rfl, trivial⟩⟩⟩
    · refine a_exit ?_
      refine a_seq ?_
      refine a_region ?_
      refine Pstep.go (st_assign rfl rfl) ?_
      refine o_nil ?_
      refine a_ret ?_
      exact ⟨_, [], [], res_of rfl, rfl, rfl, retT (tk_all hlen (by have h := h14; omega) hk), rfl⟩
set_option maxRecDepth 100000 in
theorem equal1_p (a b : Itm) (g1 : a.po.length ≤ 100000000) (g2 : a.pa.length ≤ 100000000) (g3 : a.af.length ≤ 100000000) : PCalls Try.prog 85 [.d (itmD a), .d (itmD b)] (boolD (decide (a = b))) := by
  have e1 := eqlPost_p a.po b.po g1
  have e2 := eqlPay_p a.pa b.pa g2
  have e3 := eqlInt_p a.af b.af g3
  refine a_enter Try.func85 rfl rfl Try.ntmps85 rfl rfl rfl fun F hF => ?_
  refine a_seq ?_
  refine a_region ?_
  refine Estep.go (st_box 1 rfl rfl rfl rfl rfl rfl rfl) ?_
  refine Estep.go (st_box 2 rfl rfl rfl rfl rfl rfl rfl) ?_
  refine Pstep.go (st_assign rfl rfl) ?_
  refine o_nil ?_
  refine a_seq ?_
  refine a_region ?_
  refine Pstep.go (st_fieldP rfl fi33_0 rfl rfl rfl) ?_
  refine Pstep.go (st_loadP rfl rfl rfl on3 rfl) ?_
  refine Pstep.go (st_fieldP rfl fi33_0 rfl rfl rfl) ?_
  refine Pstep.go (st_loadP rfl rfl rfl on3 rfl) ?_
  refine Pstep.go (st_eql rfl rfl rfl) ?_
  refine Pstep.go (st_move rfl rfl) ?_
  refine o_splitP 10 rfl (fun h10 => ?_) (fun h10 => ?_)
  · refine o_run rfl rfl rfl ?_
    refine Pstep.go (st_fieldP rfl fi33_1 rfl rfl rfl) ?_
    refine o_run rfl rfl rfl ?_
    refine Pstep.go (st_loadP rfl rfl rfl on3 rfl) ?_
    refine o_run rfl rfl rfl ?_
    refine Pstep.go (st_fieldP rfl fi33_1 rfl rfl rfl) ?_
    refine o_run rfl rfl rfl ?_
    refine Pstep.go (st_loadP rfl rfl rfl on3 rfl) ?_
    refine o_run rfl rfl rfl ?_
    refine Pstep.go (st_eql rfl rfl rfl) ?_
    refine Pstep.go (st_pickT rfl rfl rfl rfl) ?_
    refine Pstep.go (st_move rfl rfl) ?_
    refine o_splitP 17 rfl (fun h17 => ?_) (fun h17 => ?_)
    · refine o_run rfl rfl rfl ?_
      refine Pstep.go (st_fieldP rfl fi33_2 rfl rfl rfl) ?_
      refine o_run rfl rfl rfl ?_
      refine Pstep.go (st_loadP rfl rfl rfl on3 rfl) ?_
      refine o_run rfl rfl rfl ?_
      refine Pstep.go (st_fieldP rfl fi33_2 rfl rfl rfl) ?_
      refine o_run rfl rfl rfl ?_
      refine Pstep.go (st_loadP rfl rfl rfl on3 rfl) ?_
      refine o_run rfl rfl rfl ?_
      refine Pstep.go (st_eql rfl rfl rfl) ?_
      refine Pstep.go (st_pickT rfl rfl rfl rfl) ?_
      refine Pstep.go (st_move rfl rfl) ?_
      refine o_splitP 24 rfl (fun h24 => ?_) (fun h24 => ?_)
      · refine o_run rfl rfl rfl ?_
        refine Pstep.go (st_fieldP rfl fi33_3 rfl rfl rfl) ?_
        refine o_run rfl rfl rfl ?_
        refine Pstep.go (st_loadP rfl rfl rfl on30 rfl) ?_
        refine o_run rfl rfl rfl ?_
        refine Pstep.go (st_fieldP rfl fi33_3 rfl rfl rfl) ?_
        refine o_run rfl rfl rfl ?_
        refine Pstep.go (st_loadP rfl rfl rfl on30 rfl) ?_
        refine o_run rfl rfl rfl ?_
        refine Pstep.go (st_callP (e1) rfl rfl) ?_
        refine Pstep.go (st_pickT rfl rfl rfl rfl) ?_
        refine Pstep.go (st_move rfl rfl) ?_
        refine o_splitP 31 rfl (fun h31 => ?_) (fun h31 => ?_)
        · refine o_run rfl rfl rfl ?_
          refine Pstep.go (st_fieldP rfl fi33_4 rfl rfl rfl) ?_
          refine o_run rfl rfl rfl ?_
          refine Pstep.go (st_loadP rfl rfl rfl on31 rfl) ?_
          refine o_run rfl rfl rfl ?_
          refine Pstep.go (st_fieldP rfl fi33_4 rfl rfl rfl) ?_
          refine o_run rfl rfl rfl ?_
          refine Pstep.go (st_loadP rfl rfl rfl on31 rfl) ?_
          refine o_run rfl rfl rfl ?_
          refine Pstep.go (st_callP (e2) rfl rfl) ?_
          refine Pstep.go (st_pickT rfl rfl rfl rfl) ?_
          refine Pstep.go (st_move rfl rfl) ?_
          refine o_splitP 38 rfl (fun h38 => ?_) (fun h38 => ?_)
          · refine o_run rfl rfl rfl ?_
            refine Pstep.go (st_fieldP rfl fi33_5 rfl rfl rfl) ?_
            refine o_run rfl rfl rfl ?_
            refine Pstep.go (st_loadP rfl rfl rfl on24 rfl) ?_
            refine o_run rfl rfl rfl ?_
            refine Pstep.go (st_fieldP rfl fi33_5 rfl rfl rfl) ?_
            refine o_run rfl rfl rfl ?_
            refine Pstep.go (st_loadP rfl rfl rfl on24 rfl) ?_
            refine o_run rfl rfl rfl ?_
            refine Pstep.go (st_callP (e3) rfl rfl) ?_
            refine Pstep.go (st_pickT rfl rfl rfl rfl) ?_
            refine Pstep.go (st_assign rfl rfl) ?_
            refine o_nil ?_
            refine a_ret ?_
            exact ⟨_, [], [], res_of rfl, rfl, rfl, by first | exact retF (fun h => by subst h; simp_all) | exact retB (by rw [Itm.eq_iff]; simp_all), rfl⟩
          · refine o_pass rfl rfl rfl rfl ?_
            refine o_pass rfl rfl rfl rfl ?_
            refine o_pass rfl rfl rfl rfl ?_
            refine o_pass rfl rfl rfl rfl ?_
            refine o_pass rfl rfl rfl rfl ?_
            refine Pstep.go (st_pickF rfl rfl rfl rfl) ?_
            refine Pstep.go (st_assign rfl rfl) ?_
            refine o_nil ?_
            refine a_ret ?_
            exact ⟨_, [], [], res_of rfl, rfl, rfl, by first | exact retF (fun h => by subst h; simp_all) | exact retB (by rw [Itm.eq_iff]; simp_all), rfl⟩
        · refine o_pass rfl rfl rfl rfl ?_
          refine o_pass rfl rfl rfl rfl ?_
          refine o_pass rfl rfl rfl rfl ?_
          refine o_pass rfl rfl rfl rfl ?_
          refine o_pass rfl rfl rfl rfl ?_
          refine Pstep.go (st_pickF rfl rfl rfl rfl) ?_
          refine Pstep.go (st_move rfl rfl) ?_
          refine o_pass rfl rfl rfl rfl ?_
          refine o_pass rfl rfl rfl rfl ?_
          refine o_pass rfl rfl rfl rfl ?_
          refine o_pass rfl rfl rfl rfl ?_
          refine o_pass rfl rfl rfl rfl ?_
          refine Pstep.go (st_pickF rfl rfl rfl rfl) ?_
          refine Pstep.go (st_assign rfl rfl) ?_
          refine o_nil ?_
          refine a_ret ?_
          exact ⟨_, [], [], res_of rfl, rfl, rfl, by first | exact retF (fun h => by subst h; simp_all) | exact retB (by rw [Itm.eq_iff]; simp_all), rfl⟩
      · refine o_pass rfl rfl rfl rfl ?_
        refine o_pass rfl rfl rfl rfl ?_
        refine o_pass rfl rfl rfl rfl ?_
        refine o_pass rfl rfl rfl rfl ?_
        refine o_pass rfl rfl rfl rfl ?_
        refine Pstep.go (st_pickF rfl rfl rfl rfl) ?_
        refine Pstep.go (st_move rfl rfl) ?_
        refine o_pass rfl rfl rfl rfl ?_
        refine o_pass rfl rfl rfl rfl ?_
        refine o_pass rfl rfl rfl rfl ?_
        refine o_pass rfl rfl rfl rfl ?_
        refine o_pass rfl rfl rfl rfl ?_
        refine Pstep.go (st_pickF rfl rfl rfl rfl) ?_
        refine Pstep.go (st_move rfl rfl) ?_
        refine o_pass rfl rfl rfl rfl ?_
        refine o_pass rfl rfl rfl rfl ?_
        refine o_pass rfl rfl rfl rfl ?_
        refine o_pass rfl rfl rfl rfl ?_
        refine o_pass rfl rfl rfl rfl ?_
        refine Pstep.go (st_pickF rfl rfl rfl rfl) ?_
        refine Pstep.go (st_assign rfl rfl) ?_
        refine o_nil ?_
        refine a_ret ?_
        exact ⟨_, [], [], res_of rfl, rfl, rfl, by first | exact retF (fun h => by subst h; simp_all) | exact retB (by rw [Itm.eq_iff]; simp_all), rfl⟩
    · refine o_pass rfl rfl rfl rfl ?_
      refine o_pass rfl rfl rfl rfl ?_
      refine o_pass rfl rfl rfl rfl ?_
      refine o_pass rfl rfl rfl rfl ?_
      refine o_pass rfl rfl rfl rfl ?_
      refine Pstep.go (st_pickF rfl rfl rfl rfl) ?_
      refine Pstep.go (st_move rfl rfl) ?_
      refine o_pass rfl rfl rfl rfl ?_
      refine o_pass rfl rfl rfl rfl ?_
      refine o_pass rfl rfl rfl rfl ?_
      refine o_pass rfl rfl rfl rfl ?_
      refine o_pass rfl rfl rfl rfl ?_
      refine Pstep.go (st_pickF rfl rfl rfl rfl) ?_
      refine Pstep.go (st_move rfl rfl) ?_
      refine o_pass rfl rfl rfl rfl ?_
      refine o_pass rfl rfl rfl rfl ?_
      refine o_pass rfl rfl rfl rfl ?_
      refine o_pass rfl rfl rfl rfl ?_
      refine o_pass rfl rfl rfl rfl ?_
      refine Pstep.go (st_pickF rfl rfl rfl rfl) ?_
      refine Pstep.go (st_move rfl rfl) ?_
      refine o_pass rfl rfl rfl rfl ?_
      refine o_pass rfl rfl rfl rfl ?_
      refine o_pass rfl rfl rfl rfl ?_
      refine o_pass rfl rfl rfl rfl ?_
      refine o_pass rfl rfl rfl rfl ?_
      refine Pstep.go (st_pickF rfl rfl rfl rfl) ?_
      refine Pstep.go (st_assign rfl rfl) ?_
      refine o_nil ?_
      refine a_ret ?_
      exact ⟨_, [], [], res_of rfl, rfl, rfl, by first | exact retF (fun h => by subst h; simp_all) | exact retB (by rw [Itm.eq_iff]; simp_all), rfl⟩
  · refine o_pass rfl rfl rfl rfl ?_
    refine o_pass rfl rfl rfl rfl ?_
    refine o_pass rfl rfl rfl rfl ?_
    refine o_pass rfl rfl rfl rfl ?_
    refine o_pass rfl rfl rfl rfl ?_
    refine Pstep.go (st_pickF rfl rfl rfl rfl) ?_
    refine Pstep.go (st_move rfl rfl) ?_
    refine o_pass rfl rfl rfl rfl ?_
    refine o_pass rfl rfl rfl rfl ?_
    refine o_pass rfl rfl rfl rfl ?_
    refine o_pass rfl rfl rfl rfl ?_
    refine o_pass rfl rfl rfl rfl ?_
    refine Pstep.go (st_pickF rfl rfl rfl rfl) ?_
    refine Pstep.go (st_move rfl rfl) ?_
    refine o_pass rfl rfl rfl rfl ?_
    refine o_pass rfl rfl rfl rfl ?_
    refine o_pass rfl rfl rfl rfl ?_
    refine o_pass rfl rfl rfl rfl ?_
    refine o_pass rfl rfl rfl rfl ?_
    refine Pstep.go (st_pickF rfl rfl rfl rfl) ?_
    refine Pstep.go (st_move rfl rfl) ?_
    refine o_pass rfl rfl rfl rfl ?_
    refine o_pass rfl rfl rfl rfl ?_
    refine o_pass rfl rfl rfl rfl ?_
    refine o_pass rfl rfl rfl rfl ?_
    refine o_pass rfl rfl rfl rfl ?_
    refine Pstep.go (st_pickF rfl rfl rfl rfl) ?_
    refine Pstep.go (st_move rfl rfl) ?_
    refine o_pass rfl rfl rfl rfl ?_
    refine o_pass rfl rfl rfl rfl ?_
    refine o_pass rfl rfl rfl rfl ?_
    refine o_pass rfl rfl rfl rfl ?_
    refine o_pass rfl rfl rfl rfl ?_
    refine Pstep.go (st_pickF rfl rfl rfl rfl) ?_
    refine Pstep.go (st_assign rfl rfl) ?_
    refine o_nil ?_
    refine a_ret ?_
    exact ⟨_, [], [], res_of rfl, rfl, rfl, by first | exact retF (fun h => by subst h; simp_all) | exact retB (by rw [Itm.eq_iff]; simp_all), rfl⟩
set_option maxRecDepth 100000 in
theorem eqlF_p (a b : List Itm) (hl : a.length ≤ 100000000) (h3 : ∀ i ∈ a, i.po.length ≤ 100000000 ∧ i.pa.length ≤ 100000000 ∧ i.af.length ≤ 100000000) : PCalls Try.prog 84 [.d (.sl none (a.map itmD)), .d (.sl none (b.map itmD)), .d (.raw (.func (.func 85) #[] #[]))] (boolD (decide (a = b))) := by
  refine a_enter Try.func84 rfl rfl Try.ntmps84 rfl rfl rfl fun F hF => ?_
  refine a_seq ?_
  refine a_region ?_
  refine Pstep.go (st_assign rfl rfl) ?_
  refine o_nil ?_
  refine a_seq ?_
  refine a_seq ?_
  refine a_region ?_
  refine Pstep.go (st_move rfl rfl) ?_
  refine Pstep.go (st_lenMap rfl Try.underlying70 rfl) ?_
  refine Pstep.go (st_move rfl rfl) ?_
  refine Pstep.go (st_lenMap rfl Try.underlying70 rfl) ?_
  refine Pstep.go (st_neq rfl rfl rfl) ?_
  refine o_nil ?_
  refine a_if rfl (fun h14 => ?_) (fun h14 => ?_)
  · refine a_seq ?_
    refine a_region ?_
    refine Pstep.go (st_assign rfl rfl) ?_
    refine o_nil ?_
    refine a_ret ?_
    exact ⟨_, [], [], res_of rfl, rfl, rfl, retF (fun h => h14 (by rw [h])), rfl⟩
  · refine a_skip ?_
    refine a_seq ?_
    refine a_seq ?_
    have hlen : a.length = b.length := by omega
    refine a_region ?_
    refine Pstep.go (st_move rfl rfl) ?_
    refine Pstep.go (st_lenMap rfl Try.underlying70 rfl) ?_
    refine Pstep.go (st_move rfl rfl) ?_
    refine o_nil ?_
    refine a_block ?_
    refine a_loopP (α := Nat) (fun k => ⟨32, [(1, .d (.sl none (b.map itmD))), (2, .d (.raw (.func (.func 85) #[] #[]))), (15, (.d (.sl none (a.map itmD)))), (16, (.d (intD (a.length : Int)))), (17, (.d (intD (k : Int))))], []⟩) (fun k => k ≤ a.length ∧ a.take k = b.take k) (fun k => a.length - k) (0) (⟨Nat.zero_le _, by simp⟩) (lep_of hF [] rfl rfl ⟨rfl, rfl, rfl, rfl, rfl, trivial⟩) ?_
    rintro k ⟨hk0, hk⟩
    refine a_seq ?_
    refine a_region ?_
    refine Pstep.go (st_lss rfl rfl rfl) ?_
    refine o_nil ?_
    refine a_seq ?_
    refine a_if rfl (fun h18 => ?_) (fun h18 => ?_)
    · have hk1 : k < a.length := lt_cast h18
      refine a_skip ?_
      refine a_seq ?_
      refine a_block ?_
      refine a_seq ?_
      have hk2 : k < b.length := by omega
      have hgi := h3 _ (List.getElem_mem hk1)
      refine a_region ?_
      refine Pstep.go (st_move rfl rfl) ?_
      refine Pstep.go (st_indexD (k) rfl rfl (rfl) (getm hk1) Try.underlying70 rfl sz33 rfl) ?_
      refine Pstep.go (st_loadDS rfl rfl rw33 rfl) ?_
      refine Estep.go (st_alloc 1 zl33 rfl rfl rfl rfl) ?_
      refine Pstep.go (st_assign rfl rfl) ?_
      refine Estep.go (st_storeP rfl rfl rfl rfl rfl rfl rfl sz33) ?_
      refine o_nil ?_
      refine a_seq ?_
      refine a_region ?_
      refine Pstep.go (st_move rfl rfl) ?_
      refine Pstep.go (st_move rfl rfl) ?_
      refine Pstep.go (st_indexD (k) rfl rfl (rfl) (getm hk2) Try.underlying70 rfl sz33 rfl) ?_
      refine Pstep.go (st_loadDS rfl rfl rw33 rfl) ?_
      refine Estep.go (st_alloc 2 zl33 rfl rfl rfl rfl) ?_
      refine Estep.go (st_storeP rfl rfl rfl rfl rfl rfl rfl sz33) ?_
      refine o_nil ?_
      refine a_seq ?_
      refine a_region ?_
      refine Pstep.go (st_move rfl rfl) ?_
      refine Pstep.go (st_loadPS rfl rfl rw33 rfl rfl rfl) ?_
      refine Pstep.go (st_loadPS rfl rfl rw33 rfl rfl rfl) ?_
      refine Pstep.go (st_callVP (equal1_p a[k] b[k] hgi.1 hgi.2.1 hgi.2.2) rfl rfl) ?_
      refine Pstep.go (st_notP rfl rfl) ?_
      refine o_nil ?_
      refine a_if rfl (fun h30 => ?_) (fun h30 => ?_)
      · refine a_seq ?_
        refine a_region ?_
        refine Pstep.go (st_assign rfl rfl) ?_
        refine o_nil ?_
        refine a_ret ?_
        exact ⟨_, [], [], res_of rfl, rfl, rfl, retF (fun h => ne_at hk1 hk2 (by simpa using h30) h), rfl⟩
      · refine a_skip ?_
        refine a_region ?_
        refine Pstep.go (st_add rfl rfl (wrapS (k + 1) (by omega)) rfl) ?_
        refine Pstep.go (st_move rfl rfl) ?_
        refine o_nil ?_
        exact ⟨k + 1, ⟨by show k + 1 ≤ _; omega, tk_succ hk1 hk2 hk (by simpa using h30)⟩, by show a.length - (k + 1) < a.length - k; omega, lep_of hF [] rfl (rfl) ⟨rfl, rfl, rfl, rfl, rfl, trivial⟩⟩
    · refine a_exit ?_
      refine a_seq ?_
      refine a_region ?_
      refine Pstep.go (st_assign rfl rfl) ?_
      refine o_nil ?_
      refine a_ret ?_
      exact ⟨_, [], [], res_of rfl, rfl, rfl, retT (tk_all hlen (by have h := h18; omega) hk), rfl⟩
set_option maxRecDepth 100000 in
theorem equalP_p (p q : Prb) (h : Few p) : PCalls Try.prog 43 [.d (prbD p), .d (prbD q)] (boolD (decide (p.ro = q.ro ∧ p.it = q.it))) := by
  have e1 := eqlRoo_p p.ro q.ro h.1
  have e2 := eqlF_p p.it q.it h.2.1 h.2.2
  refine a_enter Try.func43 rfl rfl Try.ntmps43 rfl rfl rfl fun F hF => ?_
  refine a_seq ?_
  refine a_region ?_
  refine Estep.go (st_box 1 rfl rfl rfl rfl rfl rfl rfl) ?_
  refine Estep.go (st_box 2 rfl rfl rfl rfl rfl rfl rfl) ?_
  refine Pstep.go (st_assign rfl rfl) ?_
  refine o_nil ?_
  refine a_seq ?_
  refine a_region ?_
  refine Pstep.go (st_fieldP rfl fi72_0 rfl rfl rfl) ?_
  refine Pstep.go (st_loadP rfl rfl rfl on69 rfl) ?_
  refine Pstep.go (st_fieldP rfl fi72_0 rfl rfl rfl) ?_
  refine Pstep.go (st_loadP rfl rfl rfl on69 rfl) ?_
  refine Pstep.go (st_callP (e1) rfl rfl) ?_
  refine Pstep.go (st_move rfl rfl) ?_
  refine o_splitP 10 rfl (fun h10 => ?_) (fun h10 => ?_)
  · refine o_run rfl rfl rfl ?_
    refine Pstep.go (st_fieldP rfl fi72_1 rfl rfl rfl) ?_
    refine o_run rfl rfl rfl ?_
    refine Pstep.go (st_loadP rfl rfl rfl on70 rfl) ?_
    refine o_run rfl rfl rfl ?_
    refine Pstep.go (st_fieldP rfl fi72_1 rfl rfl rfl) ?_
    refine o_run rfl rfl rfl ?_
    refine Pstep.go (st_loadP rfl rfl rfl on70 rfl) ?_
    refine o_run rfl rfl rfl ?_
    refine Pstep.go (st_callP (e2) rfl rfl) ?_
    refine Pstep.go (st_pickT rfl rfl rfl rfl) ?_
    refine Pstep.go (st_assign rfl rfl) ?_
    refine o_nil ?_
    refine a_ret ?_
    exact ⟨_, [], [], res_of rfl, rfl, rfl, by first | exact retF (fun h => by simp_all) | exact retB (by simp_all), rfl⟩
  · refine o_pass rfl rfl rfl rfl ?_
    refine o_pass rfl rfl rfl rfl ?_
    refine o_pass rfl rfl rfl rfl ?_
    refine o_pass rfl rfl rfl rfl ?_
    refine o_pass rfl rfl rfl rfl ?_
    refine Pstep.go (st_pickF rfl rfl rfl rfl) ?_
    refine Pstep.go (st_assign rfl rfl) ?_
    refine o_nil ?_
    refine a_ret ?_
    exact ⟨_, [], [], res_of rfl, rfl, rfl, by first | exact retF (fun h => by simp_all) | exact retB (by simp_all), rfl⟩
end Go.Proofs.Ytfmpiabmnjmobaa
