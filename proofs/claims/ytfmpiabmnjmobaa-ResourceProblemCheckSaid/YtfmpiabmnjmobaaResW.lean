/- Layer 28: the reference's check of a problem; conversion of problems. -/
import Derived.Test.YtfmpiabmnjmobaaResV
namespace Go.Proofs.Ytfmpiabmnjmobaa
open Go.RowKit

abbrev prbB2 (T : TypeId) (p : Prb) : AObj := .blk T [.d (.sl none (p.ro.map rooD)), .d (.sl none (p.it.map itmD))]
theorem mem_tk {α β : Type} {l : List α} {f : α → β} {m k : Nat} (hk : k < l.length) (hm : m < k) {b : β} (h : f l[m] = b) : b ∈ (l.take k).map f := by
  refine List.mem_map.2 ⟨l[m], ?_, h⟩
  rw [List.mem_take_iff_getElem]
  exact ⟨m, by omega, rfl⟩
theorem nmem_next {α β : Type} {l : List α} {f : α → β} {m : Nat} (hm : m < l.length) {b : β} (h : b ∉ (l.take m).map f) (h2 : f l[m] ≠ b) : b ∉ (l.take (m + 1)).map f := by
  rw [tk_map hm, List.mem_append, List.mem_singleton]
  rintro (h3 | h3)
  · exact h h3
  · exact h2 h3.symm
theorem ixI_nn {x : Int} {l : List Int} (h : 0 ≤ ixI x l) : x ∈ l := by
  unfold ixI at h
  split at h
  · assumption
  · omega
theorem ixI_neg {x : Int} {l : List Int} (h : ixI x l < 0) : x ∉ l := by
  unfold ixI at h
  split at h
  · omega
  · assumption
set_option maxRecDepth 100000 in
theorem find_p (p : Prb) (id : Int) (hl : p.it.length ≤ 100000) : PCalls Try.prog 38 [.d (prbD p), .d (intD id)] (intD (ixI id (p.it.map Itm.id))) := by
  refine a_enter Try.func38 rfl rfl Try.ntmps38 rfl rfl rfl fun F hF => ?_
  refine a_seq ?_
  refine a_region ?_
  refine Estep.go (st_box 1 rfl rfl rfl rfl rfl rfl rfl) ?_
  refine Pstep.go (st_assign rfl rfl) ?_
  refine o_nil ?_
  refine a_seq ?_
  refine a_seq ?_
  refine a_region ?_
  refine Pstep.go (st_assign rfl rfl) ?_
  refine o_nil ?_
  refine a_block ?_
  refine a_loopP (α := Nat) (fun k => ⟨22, [(1, .d (intD id)), (2, (.ptr 1 0 0)), (5, (.d (intD (k : Int))))], [(1, [prbB2 67 p])]⟩) (fun k => k ≤ p.it.length ∧ id ∉ (p.it.take k).map Itm.id) (fun k => p.it.length - k) (0) (⟨Nat.zero_le _, by simp⟩) (lep_of hF [1] rfl rfl ⟨rfl, rfl, rfl, trivial⟩) ?_
  rintro k ⟨hk0, hk⟩
  refine a_seq ?_
  refine a_seq ?_
  refine a_region ?_
  refine Pstep.go (st_move rfl rfl) ?_
  first | refine Pstep.go (st_fieldP rfl fi67_1 rfl rfl rfl) ?_ | refine Pstep.go (st_fieldF1 rfl fi67_1 rfl rfl rfl) ?_ | refine Pstep.go (st_fieldFS rfl fi67_1 rfl rfl rfl) ?_ | refine Pstep.go (st_fieldR rfl fi67_1 rfl rfl rfl) ?_
  first | refine Pstep.go (st_loadD1 rfl rfl on65 rfl) ?_ | refine Pstep.go (st_loadP rfl rfl rfl on65 rfl) ?_ | refine Pstep.go (st_loadR rfl rfl (rfl) rfl on65 rfl) ?_
  first | refine Pstep.go (st_lenMap rfl Try.underlying65 rfl) ?_ | refine Pstep.go (st_lenD rfl rfl Try.underlying65 rfl) ?_ | refine Pstep.go (st_lenO rfl Try.underlying65 rfl) ?_ | refine Pstep.go (st_lenSL rfl Try.underlying65 rfl) ?_ | refine Pstep.go (st_lenS rfl Try.underlying65 rfl) ?_
  first | refine Pstep.go (st_lss rfl rfl rfl) ?_ | refine Pstep.go (st_lssS rfl rfl rfl) ?_
  refine o_nil ?_
  first | refine a_if rfl (fun h10 => ?_) (fun h10 => ?_) | refine a_cond rfl (fun h10 => ?_) (fun h10 => ?_)
  · have hk1 : k < p.it.length := lt_cast h10
    refine a_skip ?_
    refine a_seq ?_
    refine a_block ?_
    refine a_seq ?_
    refine a_region ?_
    first | refine Pstep.go (st_fieldP rfl fi67_1 rfl rfl rfl) ?_ | refine Pstep.go (st_fieldF1 rfl fi67_1 rfl rfl rfl) ?_ | refine Pstep.go (st_fieldFS rfl fi67_1 rfl rfl rfl) ?_ | refine Pstep.go (st_fieldR rfl fi67_1 rfl rfl rfl) ?_
    first | refine Pstep.go (st_loadD1 rfl rfl on65 rfl) ?_ | refine Pstep.go (st_loadP rfl rfl rfl on65 rfl) ?_ | refine Pstep.go (st_loadR rfl rfl (rfl) rfl on65 rfl) ?_
    refine Pstep.go (st_move rfl rfl) ?_
    first | refine Pstep.go (st_indexD (k) rfl rfl (rfl) (getm hk1) Try.underlying65 rfl sz26 rfl) ?_ | refine Pstep.go (st_indexO (k) rfl rfl (rfl) (getm hk1) rfl Try.underlying65 sz26 rfl) ?_
    first | refine Pstep.go (st_fieldP rfl fi26_0 rfl rfl rfl) ?_ | refine Pstep.go (st_fieldF1 rfl fi26_0 rfl rfl rfl) ?_ | refine Pstep.go (st_fieldFS rfl fi26_0 rfl rfl rfl) ?_ | refine Pstep.go (st_fieldR rfl fi26_0 rfl rfl rfl) ?_
    first | refine Pstep.go (st_loadD1 rfl rfl on3 rfl) ?_ | refine Pstep.go (st_loadP rfl rfl rfl on3 rfl) ?_ | refine Pstep.go (st_loadR rfl rfl (rfl) rfl on3 rfl) ?_
    refine Pstep.go (st_move rfl rfl) ?_
    first | refine Pstep.go (st_eql rfl rfl rfl) ?_ | refine Pstep.go (st_eqlSL rfl rfl rfl) ?_ | refine Pstep.go (st_eqlS rfl rfl rfl) ?_ | refine Pstep.go (st_eqlB Try.underlying3 rfl rfl rfl) ?_ | refine Pstep.go (st_eqlP Try.underlying3 rfl rfl rfl) ?_ | refine Pstep.go (st_eqlN Try.underlying3 rfl rfl) ?_ | refine Pstep.go (st_eqlF Try.underlying3 rfl rfl rfl) ?_ | refine Pstep.go (st_eqlFN Try.underlying3 rfl rfl) ?_
    refine o_nil ?_
    first | refine a_if rfl (fun h20 => ?_) (fun h20 => ?_) | refine a_cond rfl (fun h20 => ?_) (fun h20 => ?_)
    · refine a_seq ?_
      refine a_region ?_
      refine Pstep.go (st_move rfl rfl) ?_
      refine Pstep.go (st_assign rfl rfl) ?_
      refine o_nil ?_
      refine a_ret ?_
      exact ⟨_, [], [], res_of rfl, rfl, rfl, retI (idxOf_at (l := p.it.map Itm.id) (by simpa using hk1) (by rw [← List.map_take]; exact hk) (by rw [List.getElem_map]; exact h20.symm)).symm, rfl⟩
    · refine a_skip ?_
      refine a_region ?_
      refine Pstep.go (st_move rfl rfl) ?_
      refine Pstep.go (st_add rfl rfl (wrapS (k + 1) (by omega)) rfl) ?_
      refine Pstep.go (st_assign rfl rfl) ?_
      refine o_nil ?_
      exact ⟨k + 1, ⟨by show k + 1 ≤ _; omega, nmem_next hk1 hk h20⟩, by show p.it.length - (k + 1) < p.it.length - k; omega, lep_of hF [1] rfl (rfl) ⟨rfl, rfl, rfl, trivial⟩⟩
  · refine a_exit ?_
    refine a_seq ?_
    refine a_region ?_
    refine Pstep.go (st_assign rfl rfl) ?_
    refine o_nil ?_
    refine a_ret ?_
    exact ⟨_, [], [], res_of rfl, rfl, rfl, retI (by unfold ixI; rw [if_neg (by rw [List.take_of_length_le (by have h := h10; omega)] at hk; exact hk)]), rfl⟩
def Sml (p : Prb) : Prop := p.it.length ≤ 12 ∧ p.ro.length ≤ 24 ∧ ∀ i ∈ p.it, i.po.length ≤ 12 ∧ i.pa.length ≤ 12 ∧ i.af.length ≤ 12
instance (p : Prb) : Decidable (Sml p) := inferInstanceAs (Decidable (_ ∧ _ ∧ ∀ i ∈ p.it, _))
set_option maxRecDepth 100000 in
theorem small_p (p : Prb) : PCalls Try.prog 27 [.d (prbD p)] (boolD (decide (Sml p))) := by
  refine a_enter Try.func27 rfl rfl Try.ntmps27 rfl rfl rfl fun F hF => ?_
  refine a_seq ?_
  refine a_region ?_
  refine Estep.go (st_box 1 rfl rfl rfl rfl rfl rfl rfl) ?_
  refine Pstep.go (st_assign rfl rfl) ?_
  refine o_nil ?_
  refine a_seq ?_
  refine a_seq ?_
  refine a_region ?_
  first | refine Pstep.go (st_fieldP rfl fi67_1 rfl rfl rfl) ?_ | refine Pstep.go (st_fieldF1 rfl fi67_1 rfl rfl rfl) ?_ | refine Pstep.go (st_fieldFS rfl fi67_1 rfl rfl rfl) ?_ | refine Pstep.go (st_fieldR rfl fi67_1 rfl rfl rfl) ?_
  first | refine Pstep.go (st_loadD1 rfl rfl on65 rfl) ?_ | refine Pstep.go (st_loadP rfl rfl rfl on65 rfl) ?_ | refine Pstep.go (st_loadR rfl rfl (rfl) rfl on65 rfl) ?_
  first | refine Pstep.go (st_lenMap rfl Try.underlying65 rfl) ?_ | refine Pstep.go (st_lenD rfl rfl Try.underlying65 rfl) ?_ | refine Pstep.go (st_lenO rfl Try.underlying65 rfl) ?_ | refine Pstep.go (st_lenSL rfl Try.underlying65 rfl) ?_ | refine Pstep.go (st_lenS rfl Try.underlying65 rfl) ?_
  first | refine Pstep.go (st_gtr rfl rfl rfl) ?_ | refine Pstep.go (st_gtrS rfl rfl rfl) ?_
  refine Pstep.go (st_move rfl rfl) ?_
  first | refine o_splitP 8 rfl (fun h8 => ?_) (fun h8 => ?_) | refine o_splitB 8 rfl (fun h8 => ?_) (fun h8 => ?_)
  · refine o_pass rfl rfl rfl rfl ?_
    refine o_pass rfl rfl rfl rfl ?_
    refine o_pass rfl rfl rfl rfl ?_
    refine o_pass rfl rfl rfl rfl ?_
    refine Pstep.go (st_pickT rfl rfl rfl rfl) ?_
    refine o_nil ?_
    refine a_true rfl rfl ?_
    refine a_seq ?_
    refine a_region ?_
    refine Pstep.go (st_assign rfl rfl) ?_
    refine o_nil ?_
    refine a_ret ?_
    exact ⟨_, [], [], res_of rfl, rfl, rfl, retF (fun h => by have h1 := h.1; have h2 := h.2.1; omega), rfl⟩
  · refine o_run rfl rfl rfl ?_
    first | refine Pstep.go (st_fieldP rfl fi67_0 rfl rfl rfl) ?_ | refine Pstep.go (st_fieldF1 rfl fi67_0 rfl rfl rfl) ?_ | refine Pstep.go (st_fieldFS rfl fi67_0 rfl rfl rfl) ?_ | refine Pstep.go (st_fieldR rfl fi67_0 rfl rfl rfl) ?_
    refine o_run rfl rfl rfl ?_
    first | refine Pstep.go (st_loadD1 rfl rfl on58 rfl) ?_ | refine Pstep.go (st_loadP rfl rfl rfl on58 rfl) ?_ | refine Pstep.go (st_loadR rfl rfl (rfl) rfl on58 rfl) ?_
    refine o_run rfl rfl rfl ?_
    first | refine Pstep.go (st_lenMap rfl Try.underlying58 rfl) ?_ | refine Pstep.go (st_lenD rfl rfl Try.underlying58 rfl) ?_ | refine Pstep.go (st_lenO rfl Try.underlying58 rfl) ?_ | refine Pstep.go (st_lenSL rfl Try.underlying58 rfl) ?_ | refine Pstep.go (st_lenS rfl Try.underlying58 rfl) ?_
    refine o_run rfl rfl rfl ?_
    first | refine Pstep.go (st_gtr rfl rfl rfl) ?_ | refine Pstep.go (st_gtrS rfl rfl rfl) ?_
    refine Pstep.go (st_pickF rfl rfl rfl rfl) ?_
    refine o_nil ?_
    first | refine a_if rfl (fun h13 => ?_) (fun h13 => ?_) | refine a_cond rfl (fun h13 => ?_) (fun h13 => ?_)
    · refine a_seq ?_
      refine a_region ?_
      refine Pstep.go (st_assign rfl rfl) ?_
      refine o_nil ?_
      refine a_ret ?_
      exact ⟨_, [], [], res_of rfl, rfl, rfl, retF (fun h => by have h1 := h.1; have h2 := h.2.1; omega), rfl⟩
    · refine a_skip ?_
      refine a_seq ?_
      refine a_seq ?_
      refine a_region ?_
      refine Pstep.go (st_assign rfl rfl) ?_
      refine o_nil ?_
      refine a_block ?_
      refine a_loopP (α := Nat) (fun k => ⟨49, [(1, (.ptr 1 0 0)), (3, (.d (intD (k : Int))))], [(1, [prbB2 67 p])]⟩) (fun k => k ≤ p.it.length ∧ ∀ i ∈ p.it.take k, i.po.length ≤ 12 ∧ i.pa.length ≤ 12 ∧ i.af.length ≤ 12) (fun k => p.it.length - k) (0) (⟨Nat.zero_le _, by simp⟩) (lep_of hF [1] rfl rfl ⟨rfl, rfl, trivial⟩) ?_
      rintro k ⟨hk0, hk⟩
      refine a_seq ?_
      refine a_seq ?_
      refine a_region ?_
      refine Pstep.go (st_move rfl rfl) ?_
      first | refine Pstep.go (st_fieldP rfl fi67_1 rfl rfl rfl) ?_ | refine Pstep.go (st_fieldF1 rfl fi67_1 rfl rfl rfl) ?_ | refine Pstep.go (st_fieldFS rfl fi67_1 rfl rfl rfl) ?_ | refine Pstep.go (st_fieldR rfl fi67_1 rfl rfl rfl) ?_
      first | refine Pstep.go (st_loadD1 rfl rfl on65 rfl) ?_ | refine Pstep.go (st_loadP rfl rfl rfl on65 rfl) ?_ | refine Pstep.go (st_loadR rfl rfl (rfl) rfl on65 rfl) ?_
      first | refine Pstep.go (st_lenMap rfl Try.underlying65 rfl) ?_ | refine Pstep.go (st_lenD rfl rfl Try.underlying65 rfl) ?_ | refine Pstep.go (st_lenO rfl Try.underlying65 rfl) ?_ | refine Pstep.go (st_lenSL rfl Try.underlying65 rfl) ?_ | refine Pstep.go (st_lenS rfl Try.underlying65 rfl) ?_
      first | refine Pstep.go (st_lss rfl rfl rfl) ?_ | refine Pstep.go (st_lssS rfl rfl rfl) ?_
      refine o_nil ?_
      first | refine a_if rfl (fun h18 => ?_) (fun h18 => ?_) | refine a_cond rfl (fun h18 => ?_) (fun h18 => ?_)
      · have hk1 : k < p.it.length := lt_cast h18
        refine a_skip ?_
        refine a_seq ?_
        refine a_block ?_
        refine a_seq ?_
        refine a_region ?_
        first | refine Pstep.go (st_fieldP rfl fi67_1 rfl rfl rfl) ?_ | refine Pstep.go (st_fieldF1 rfl fi67_1 rfl rfl rfl) ?_ | refine Pstep.go (st_fieldFS rfl fi67_1 rfl rfl rfl) ?_ | refine Pstep.go (st_fieldR rfl fi67_1 rfl rfl rfl) ?_
        first | refine Pstep.go (st_loadD1 rfl rfl on65 rfl) ?_ | refine Pstep.go (st_loadP rfl rfl rfl on65 rfl) ?_ | refine Pstep.go (st_loadR rfl rfl (rfl) rfl on65 rfl) ?_
        refine Pstep.go (st_move rfl rfl) ?_
        first | refine Pstep.go (st_indexD (k) rfl rfl (rfl) (getm hk1) Try.underlying65 rfl sz26 rfl) ?_ | refine Pstep.go (st_indexO (k) rfl rfl (rfl) (getm hk1) rfl Try.underlying65 sz26 rfl) ?_
        first | refine Pstep.go (st_fieldP rfl fi26_3 rfl rfl rfl) ?_ | refine Pstep.go (st_fieldF1 rfl fi26_3 rfl rfl rfl) ?_ | refine Pstep.go (st_fieldFS rfl fi26_3 rfl rfl rfl) ?_ | refine Pstep.go (st_fieldR rfl fi26_3 rfl rfl rfl) ?_
        first | refine Pstep.go (st_loadD1 rfl rfl on22 rfl) ?_ | refine Pstep.go (st_loadP rfl rfl rfl on22 rfl) ?_ | refine Pstep.go (st_loadR rfl rfl (rfl) rfl on22 rfl) ?_
        first | refine Pstep.go (st_lenMap rfl Try.underlying22 rfl) ?_ | refine Pstep.go (st_lenD rfl rfl Try.underlying22 rfl) ?_ | refine Pstep.go (st_lenO rfl Try.underlying22 rfl) ?_ | refine Pstep.go (st_lenSL rfl Try.underlying22 rfl) ?_ | refine Pstep.go (st_lenS rfl Try.underlying22 rfl) ?_
        first | refine Pstep.go (st_gtr rfl rfl rfl) ?_ | refine Pstep.go (st_gtrS rfl rfl rfl) ?_
        refine Pstep.go (st_move rfl rfl) ?_
        first | refine o_splitP 29 rfl (fun h29 => ?_) (fun h29 => ?_) | refine o_splitB 29 rfl (fun h29 => ?_) (fun h29 => ?_)
        · refine o_pass rfl rfl rfl rfl ?_
          refine o_pass rfl rfl rfl rfl ?_
          refine o_pass rfl rfl rfl rfl ?_
          refine o_pass rfl rfl rfl rfl ?_
          refine o_pass rfl rfl rfl rfl ?_
          refine o_pass rfl rfl rfl rfl ?_
          refine o_pass rfl rfl rfl rfl ?_
          refine o_pass rfl rfl rfl rfl ?_
          refine Pstep.go (st_pickT rfl rfl rfl rfl) ?_
          refine Pstep.go (st_move rfl rfl) ?_
          refine o_pass rfl rfl rfl rfl ?_
          refine o_pass rfl rfl rfl rfl ?_
          refine o_pass rfl rfl rfl rfl ?_
          refine o_pass rfl rfl rfl rfl ?_
          refine o_pass rfl rfl rfl rfl ?_
          refine o_pass rfl rfl rfl rfl ?_
          refine o_pass rfl rfl rfl rfl ?_
          refine o_pass rfl rfl rfl rfl ?_
          refine Pstep.go (st_pickT rfl rfl rfl rfl) ?_
          refine o_nil ?_
          refine a_true rfl rfl ?_
          refine a_seq ?_
          refine a_region ?_
          refine Pstep.go (st_assign rfl rfl) ?_
          refine o_nil ?_
          refine a_ret ?_
          exact ⟨_, [], [], res_of rfl, rfl, rfl, retF (fun h => by have h1 := h.2.2 _ (List.getElem_mem hk1); omega), rfl⟩
        · refine o_run rfl rfl rfl ?_
          first | refine Pstep.go (st_fieldP rfl fi67_1 rfl rfl rfl) ?_ | refine Pstep.go (st_fieldF1 rfl fi67_1 rfl rfl rfl) ?_ | refine Pstep.go (st_fieldFS rfl fi67_1 rfl rfl rfl) ?_ | refine Pstep.go (st_fieldR rfl fi67_1 rfl rfl rfl) ?_
          refine o_run rfl rfl rfl ?_
          first | refine Pstep.go (st_loadD1 rfl rfl on65 rfl) ?_ | refine Pstep.go (st_loadP rfl rfl rfl on65 rfl) ?_ | refine Pstep.go (st_loadR rfl rfl (rfl) rfl on65 rfl) ?_
          refine o_run rfl rfl rfl ?_
          refine Pstep.go (st_move rfl rfl) ?_
          refine o_run rfl rfl rfl ?_
          first | refine Pstep.go (st_indexD (k) rfl rfl (rfl) (getm hk1) Try.underlying65 rfl sz26 rfl) ?_ | refine Pstep.go (st_indexO (k) rfl rfl (rfl) (getm hk1) rfl Try.underlying65 sz26 rfl) ?_
          refine o_run rfl rfl rfl ?_
          first | refine Pstep.go (st_fieldP rfl fi26_4 rfl rfl rfl) ?_ | refine Pstep.go (st_fieldF1 rfl fi26_4 rfl rfl rfl) ?_ | refine Pstep.go (st_fieldFS rfl fi26_4 rfl rfl rfl) ?_ | refine Pstep.go (st_fieldR rfl fi26_4 rfl rfl rfl) ?_
          refine o_run rfl rfl rfl ?_
          first | refine Pstep.go (st_loadD1 rfl rfl on23 rfl) ?_ | refine Pstep.go (st_loadP rfl rfl rfl on23 rfl) ?_ | refine Pstep.go (st_loadR rfl rfl (rfl) rfl on23 rfl) ?_
          refine o_run rfl rfl rfl ?_
          first | refine Pstep.go (st_lenMap rfl Try.underlying23 rfl) ?_ | refine Pstep.go (st_lenD rfl rfl Try.underlying23 rfl) ?_ | refine Pstep.go (st_lenO rfl Try.underlying23 rfl) ?_ | refine Pstep.go (st_lenSL rfl Try.underlying23 rfl) ?_ | refine Pstep.go (st_lenS rfl Try.underlying23 rfl) ?_
          refine o_run rfl rfl rfl ?_
          first | refine Pstep.go (st_gtr rfl rfl rfl) ?_ | refine Pstep.go (st_gtrS rfl rfl rfl) ?_
          refine Pstep.go (st_pickF rfl rfl rfl rfl) ?_
          refine Pstep.go (st_move rfl rfl) ?_
          first | refine o_splitP 39 rfl (fun h39 => ?_) (fun h39 => ?_) | refine o_splitB 39 rfl (fun h39 => ?_) (fun h39 => ?_)
          · refine o_pass rfl rfl rfl rfl ?_
            refine o_pass rfl rfl rfl rfl ?_
            refine o_pass rfl rfl rfl rfl ?_
            refine o_pass rfl rfl rfl rfl ?_
            refine o_pass rfl rfl rfl rfl ?_
            refine o_pass rfl rfl rfl rfl ?_
            refine o_pass rfl rfl rfl rfl ?_
            refine o_pass rfl rfl rfl rfl ?_
            refine Pstep.go (st_pickT rfl rfl rfl rfl) ?_
            refine o_nil ?_
            refine a_true rfl rfl ?_
            refine a_seq ?_
            refine a_region ?_
            refine Pstep.go (st_assign rfl rfl) ?_
            refine o_nil ?_
            refine a_ret ?_
            exact ⟨_, [], [], res_of rfl, rfl, rfl, retF (fun h => by have h1 := h.2.2 _ (List.getElem_mem hk1); omega), rfl⟩
          · refine o_run rfl rfl rfl ?_
            first | refine Pstep.go (st_fieldP rfl fi67_1 rfl rfl rfl) ?_ | refine Pstep.go (st_fieldF1 rfl fi67_1 rfl rfl rfl) ?_ | refine Pstep.go (st_fieldFS rfl fi67_1 rfl rfl rfl) ?_ | refine Pstep.go (st_fieldR rfl fi67_1 rfl rfl rfl) ?_
            refine o_run rfl rfl rfl ?_
            first | refine Pstep.go (st_loadD1 rfl rfl on65 rfl) ?_ | refine Pstep.go (st_loadP rfl rfl rfl on65 rfl) ?_ | refine Pstep.go (st_loadR rfl rfl (rfl) rfl on65 rfl) ?_
            refine o_run rfl rfl rfl ?_
            refine Pstep.go (st_move rfl rfl) ?_
            refine o_run rfl rfl rfl ?_
            first | refine Pstep.go (st_indexD (k) rfl rfl (rfl) (getm hk1) Try.underlying65 rfl sz26 rfl) ?_ | refine Pstep.go (st_indexO (k) rfl rfl (rfl) (getm hk1) rfl Try.underlying65 sz26 rfl) ?_
            refine o_run rfl rfl rfl ?_
            first | refine Pstep.go (st_fieldP rfl fi26_5 rfl rfl rfl) ?_ | refine Pstep.go (st_fieldF1 rfl fi26_5 rfl rfl rfl) ?_ | refine Pstep.go (st_fieldFS rfl fi26_5 rfl rfl rfl) ?_ | refine Pstep.go (st_fieldR rfl fi26_5 rfl rfl rfl) ?_
            refine o_run rfl rfl rfl ?_
            first | refine Pstep.go (st_loadD1 rfl rfl on24 rfl) ?_ | refine Pstep.go (st_loadP rfl rfl rfl on24 rfl) ?_ | refine Pstep.go (st_loadR rfl rfl (rfl) rfl on24 rfl) ?_
            refine o_run rfl rfl rfl ?_
            first | refine Pstep.go (st_lenMap rfl Try.underlying24 rfl) ?_ | refine Pstep.go (st_lenD rfl rfl Try.underlying24 rfl) ?_ | refine Pstep.go (st_lenO rfl Try.underlying24 rfl) ?_ | refine Pstep.go (st_lenSL rfl Try.underlying24 rfl) ?_ | refine Pstep.go (st_lenS rfl Try.underlying24 rfl) ?_
            refine o_run rfl rfl rfl ?_
            first | refine Pstep.go (st_gtr rfl rfl rfl) ?_ | refine Pstep.go (st_gtrS rfl rfl rfl) ?_
            refine Pstep.go (st_pickF rfl rfl rfl rfl) ?_
            refine o_nil ?_
            first | refine a_if rfl (fun h48 => ?_) (fun h48 => ?_) | refine a_cond rfl (fun h48 => ?_) (fun h48 => ?_)
            · refine a_seq ?_
              refine a_region ?_
              refine Pstep.go (st_assign rfl rfl) ?_
              refine o_nil ?_
              refine a_ret ?_
              exact ⟨_, [], [], res_of rfl, rfl, rfl, retF (fun h => by have h1 := h.2.2 _ (List.getElem_mem hk1); omega), rfl⟩
            · refine a_skip ?_
              refine a_region ?_
              refine Pstep.go (st_move rfl rfl) ?_
              refine Pstep.go (st_add rfl rfl (wrapS (k + 1) (by omega)) rfl) ?_
              refine Pstep.go (st_assign rfl rfl) ?_
              refine o_nil ?_
              exact ⟨k + 1, ⟨by show k + 1 ≤ _; omega, by rw [List.take_succ_eq_append_getElem hk1]; intro i hi; rcases List.mem_append.1 hi with hi | hi; exact hk i hi; rw [List.mem_singleton.1 hi]; omega⟩, by show p.it.length - (k + 1) < p.it.length - k; omega, lep_of hF [1] rfl (rfl) ⟨rfl, rfl, trivial⟩⟩
      · refine a_exit ?_
        refine a_seq ?_
        refine a_region ?_
        refine Pstep.go (st_assign rfl rfl) ?_
        refine o_nil ?_
        refine a_ret ?_
        exact ⟨_, [], [], res_of rfl, rfl, rfl, retT ⟨by omega, by omega, fun i hi => hk i (by rw [List.take_of_length_le (by have h := h18; omega)]; exact hi)⟩, rfl⟩
set_option maxRecDepth 100000 in
theorem refpcheck_p (p : Prb) (g1 : p.ro.length ≤ 1000) (g2 : p.it.length ≤ 1000) (g3 : ∀ i ∈ p.it, i.po.length ≤ 1000 ∧ i.pa.length ≤ 1000 ∧ i.af.length ≤ 1000) : PCalls Try.prog 30 [.d (prbD p)] (intD (prbE p)) := by
  refine a_enter Try.func30 rfl rfl Try.ntmps30 rfl rfl rfl fun F hF => ?_
  refine a_seq ?_
  refine a_region ?_
  refine Estep.go (st_box 1 rfl rfl rfl rfl rfl rfl rfl) ?_
  refine Pstep.go (st_assign rfl rfl) ?_
  refine o_nil ?_
  refine a_seq ?_
  refine a_seq ?_
  refine a_region ?_
  first | refine Pstep.go (st_fieldP rfl fi67_1 rfl rfl rfl) ?_ | refine Pstep.go (st_fieldF1 rfl fi67_1 rfl rfl rfl) ?_ | refine Pstep.go (st_fieldFS rfl fi67_1 rfl rfl rfl) ?_ | refine Pstep.go (st_fieldR rfl fi67_1 rfl rfl rfl) ?_
  first | refine Pstep.go (st_loadD1 rfl rfl on65 rfl) ?_ | refine Pstep.go (st_loadP rfl rfl rfl on65 rfl) ?_ | refine Pstep.go (st_loadR rfl rfl (rfl) rfl on65 rfl) ?_
  first | refine Pstep.go (st_lenMap rfl Try.underlying65 rfl) ?_ | refine Pstep.go (st_lenD rfl rfl Try.underlying65 rfl) ?_ | refine Pstep.go (st_lenO rfl Try.underlying65 rfl) ?_ | refine Pstep.go (st_lenSL rfl Try.underlying65 rfl) ?_ | refine Pstep.go (st_lenS rfl Try.underlying65 rfl) ?_
  first | refine Pstep.go (st_gtr rfl rfl rfl) ?_ | refine Pstep.go (st_gtrS rfl rfl rfl) ?_
  refine Pstep.go (st_move rfl rfl) ?_
  first | refine o_splitP 15 rfl (fun h15 => ?_) (fun h15 => ?_) | refine o_splitB 15 rfl (fun h15 => ?_) (fun h15 => ?_)
  · refine o_pass rfl rfl rfl rfl ?_
    refine o_pass rfl rfl rfl rfl ?_
    refine o_pass rfl rfl rfl rfl ?_
    refine o_pass rfl rfl rfl rfl ?_
    refine Pstep.go (st_pickT rfl rfl rfl rfl) ?_
    refine o_nil ?_
    refine a_true rfl rfl ?_
    refine a_seq ?_
    refine a_region ?_
    refine Pstep.go (st_assign rfl rfl) ?_
    refine o_nil ?_
    refine a_ret ?_
    exact ⟨_, [], [], res_of rfl, rfl, rfl, retI (by unfold prbE; rw [if_pos (by omega)]), rfl⟩
  · refine o_run rfl rfl rfl ?_
    first | refine Pstep.go (st_fieldP rfl fi67_0 rfl rfl rfl) ?_ | refine Pstep.go (st_fieldF1 rfl fi67_0 rfl rfl rfl) ?_ | refine Pstep.go (st_fieldFS rfl fi67_0 rfl rfl rfl) ?_ | refine Pstep.go (st_fieldR rfl fi67_0 rfl rfl rfl) ?_
    refine o_run rfl rfl rfl ?_
    first | refine Pstep.go (st_loadD1 rfl rfl on58 rfl) ?_ | refine Pstep.go (st_loadP rfl rfl rfl on58 rfl) ?_ | refine Pstep.go (st_loadR rfl rfl (rfl) rfl on58 rfl) ?_
    refine o_run rfl rfl rfl ?_
    first | refine Pstep.go (st_lenMap rfl Try.underlying58 rfl) ?_ | refine Pstep.go (st_lenD rfl rfl Try.underlying58 rfl) ?_ | refine Pstep.go (st_lenO rfl Try.underlying58 rfl) ?_ | refine Pstep.go (st_lenSL rfl Try.underlying58 rfl) ?_ | refine Pstep.go (st_lenS rfl Try.underlying58 rfl) ?_
    refine o_run rfl rfl rfl ?_
    first | refine Pstep.go (st_gtr rfl rfl rfl) ?_ | refine Pstep.go (st_gtrS rfl rfl rfl) ?_
    refine Pstep.go (st_pickF rfl rfl rfl rfl) ?_
    refine o_nil ?_
    first | refine a_if rfl (fun h20 => ?_) (fun h20 => ?_) | refine a_cond rfl (fun h20 => ?_) (fun h20 => ?_)
    · refine a_seq ?_
      refine a_region ?_
      refine Pstep.go (st_assign rfl rfl) ?_
      refine o_nil ?_
      refine a_ret ?_
      exact ⟨_, [], [], res_of rfl, rfl, rfl, retI (by unfold prbE; rw [if_pos (by omega)]), rfl⟩
    · refine a_skip ?_
      refine a_seq ?_
      refine a_seq ?_
      have hsz : ¬ (4096 < p.it.length ∨ 16384 < p.ro.length) := by omega
      refine a_region ?_
      refine Pstep.go (st_assign rfl rfl) ?_
      refine o_nil ?_
      refine a_block ?_
      refine a_loopP (α := Nat) (fun k => ⟨151, [(1, (.ptr 1 0 0)), (3, (.d (intD (k : Int))))], [(1, [prbB2 67 p])]⟩) (fun k => k ≤ p.ro.length ∧ roomsE p.ro = fst0 (((List.range p.ro.length).drop k).map (rErr p.ro))) (fun k => p.ro.length - k) (0) (⟨Nat.zero_le _, rfl⟩) (lep_of hF [1] rfl rfl ⟨rfl, rfl, trivial⟩) ?_
      rintro k ⟨hk0, hk⟩
      refine a_seq ?_
      refine a_seq ?_
      refine a_region ?_
      refine Pstep.go (st_move rfl rfl) ?_
      first | refine Pstep.go (st_fieldP rfl fi67_0 rfl rfl rfl) ?_ | refine Pstep.go (st_fieldF1 rfl fi67_0 rfl rfl rfl) ?_ | refine Pstep.go (st_fieldFS rfl fi67_0 rfl rfl rfl) ?_ | refine Pstep.go (st_fieldR rfl fi67_0 rfl rfl rfl) ?_
      first | refine Pstep.go (st_loadD1 rfl rfl on58 rfl) ?_ | refine Pstep.go (st_loadP rfl rfl rfl on58 rfl) ?_ | refine Pstep.go (st_loadR rfl rfl (rfl) rfl on58 rfl) ?_
      first | refine Pstep.go (st_lenMap rfl Try.underlying58 rfl) ?_ | refine Pstep.go (st_lenD rfl rfl Try.underlying58 rfl) ?_ | refine Pstep.go (st_lenO rfl Try.underlying58 rfl) ?_ | refine Pstep.go (st_lenSL rfl Try.underlying58 rfl) ?_ | refine Pstep.go (st_lenS rfl Try.underlying58 rfl) ?_
      first | refine Pstep.go (st_lss rfl rfl rfl) ?_ | refine Pstep.go (st_lssS rfl rfl rfl) ?_
      refine o_nil ?_
      first | refine a_if rfl (fun h25 => ?_) (fun h25 => ?_) | refine a_cond rfl (fun h25 => ?_) (fun h25 => ?_)
      · have hk1 : k < p.ro.length := lt_cast h25
        refine a_skip ?_
        refine a_seq ?_
        refine a_block ?_
        refine a_seq ?_
        refine a_seq ?_
        refine a_region ?_
        have hE := range_cases hk1 hk
        have hgd := getD_at roo0 hk1
        first | refine Pstep.go (st_fieldP rfl fi67_0 rfl rfl rfl) ?_ | refine Pstep.go (st_fieldF1 rfl fi67_0 rfl rfl rfl) ?_ | refine Pstep.go (st_fieldFS rfl fi67_0 rfl rfl rfl) ?_ | refine Pstep.go (st_fieldR rfl fi67_0 rfl rfl rfl) ?_
        first | refine Pstep.go (st_loadD1 rfl rfl on58 rfl) ?_ | refine Pstep.go (st_loadP rfl rfl rfl on58 rfl) ?_ | refine Pstep.go (st_loadR rfl rfl (rfl) rfl on58 rfl) ?_
        refine Pstep.go (st_move rfl rfl) ?_
        first | refine Pstep.go (st_indexD (k) rfl rfl (rfl) (getm hk1) Try.underlying58 rfl sz61 rfl) ?_ | refine Pstep.go (st_indexO (k) rfl rfl (rfl) (getm hk1) rfl Try.underlying58 sz61 rfl) ?_
        first | refine Pstep.go (st_fieldP rfl fi61_0 rfl rfl rfl) ?_ | refine Pstep.go (st_fieldF1 rfl fi61_0 rfl rfl rfl) ?_ | refine Pstep.go (st_fieldFS rfl fi61_0 rfl rfl rfl) ?_ | refine Pstep.go (st_fieldR rfl fi61_0 rfl rfl rfl) ?_
        first | refine Pstep.go (st_loadDS rfl rfl rw48 rfl) ?_ | refine Pstep.go (st_loadPS rfl rfl rw48 rfl rfl rfl) ?_ | refine Pstep.go (st_loadRS rfl rfl (rfl) rfl rw48 rfl) ?_
        refine Pstep.go (st_callP (refvalid_p p.ro[k].r) rfl rfl) ?_
        refine Pstep.go (st_assign rfl rfl) ?_
        refine o_nil ?_
        refine a_seq ?_
        refine a_region ?_
        refine Pstep.go (st_move rfl rfl) ?_
        first | refine Pstep.go (st_neq rfl rfl rfl) ?_ | refine Pstep.go (st_neqSL rfl rfl rfl) ?_ | refine Pstep.go (st_neqS rfl rfl rfl) ?_ | refine Pstep.go (st_neqB Try.underlying3 rfl rfl rfl) ?_ | refine Pstep.go (st_neqP Try.underlying3 rfl rfl rfl) ?_ | refine Pstep.go (st_neqN Try.underlying3 rfl rfl) ?_ | refine Pstep.go (st_neqF Try.underlying3 rfl rfl rfl) ?_ | refine Pstep.go (st_neqFN Try.underlying3 rfl rfl) ?_
        refine o_nil ?_
        first | refine a_if rfl (fun h36 => ?_) (fun h36 => ?_) | refine a_cond rfl (fun h36 => ?_) (fun h36 => ?_)
        · refine a_seq ?_
          refine a_region ?_
          refine Pstep.go (st_move rfl rfl) ?_
          refine Pstep.go (st_assign rfl rfl) ?_
          refine o_nil ?_
          refine a_ret ?_
          exact ⟨_, [], [], res_of rfl, rfl, rfl, retI (by have h := hE.2 _ (by unfold rErr; rw [hgd, if_pos h36]) h36; rw [h]; exact prbE_r hsz (by rw [← h]; exact h36)), rfl⟩
        · refine a_skip ?_
          refine a_seq ?_
          refine a_seq ?_
          refine a_region ?_
          first | refine Pstep.go (st_fieldP rfl fi67_0 rfl rfl rfl) ?_ | refine Pstep.go (st_fieldF1 rfl fi67_0 rfl rfl rfl) ?_ | refine Pstep.go (st_fieldFS rfl fi67_0 rfl rfl rfl) ?_ | refine Pstep.go (st_fieldR rfl fi67_0 rfl rfl rfl) ?_
          first | refine Pstep.go (st_loadD1 rfl rfl on58 rfl) ?_ | refine Pstep.go (st_loadP rfl rfl rfl on58 rfl) ?_ | refine Pstep.go (st_loadR rfl rfl (rfl) rfl on58 rfl) ?_
          refine Pstep.go (st_move rfl rfl) ?_
          first | refine Pstep.go (st_indexD (k) rfl rfl (rfl) (getm hk1) Try.underlying58 rfl sz61 rfl) ?_ | refine Pstep.go (st_indexO (k) rfl rfl (rfl) (getm hk1) rfl Try.underlying58 sz61 rfl) ?_
          first | refine Pstep.go (st_fieldP rfl fi61_1 rfl rfl rfl) ?_ | refine Pstep.go (st_fieldF1 rfl fi61_1 rfl rfl rfl) ?_ | refine Pstep.go (st_fieldFS rfl fi61_1 rfl rfl rfl) ?_ | refine Pstep.go (st_fieldR rfl fi61_1 rfl rfl rfl) ?_
          first | refine Pstep.go (st_loadD1 rfl rfl on2 rfl) ?_ | refine Pstep.go (st_loadP rfl rfl rfl on2 rfl) ?_ | refine Pstep.go (st_loadR rfl rfl (rfl) rfl on2 rfl) ?_
          first | refine Pstep.go (st_lss rfl rfl rfl) ?_ | refine Pstep.go (st_lssS rfl rfl rfl) ?_
          refine Pstep.go (st_move rfl rfl) ?_
          first | refine o_splitP 45 rfl (fun h45 => ?_) (fun h45 => ?_) | refine o_splitB 45 rfl (fun h45 => ?_) (fun h45 => ?_)
          · refine o_pass rfl rfl rfl rfl ?_
            refine o_pass rfl rfl rfl rfl ?_
            refine o_pass rfl rfl rfl rfl ?_
            refine o_pass rfl rfl rfl rfl ?_
            refine o_pass rfl rfl rfl rfl ?_
            refine o_pass rfl rfl rfl rfl ?_
            refine o_pass rfl rfl rfl rfl ?_
            refine Pstep.go (st_pickT rfl rfl rfl rfl) ?_
            refine o_nil ?_
            refine a_true rfl rfl ?_
            refine a_seq ?_
            refine a_region ?_
            refine Pstep.go (st_assign rfl rfl) ?_
            refine o_nil ?_
            refine a_ret ?_
            exact ⟨_, [], [], res_of rfl, rfl, rfl, retI (by have h := hE.2 12 (by unfold rErr; rw [hgd, if_neg h36, if_pos (by simp only [Mx]; omega)]) (by decide); rw [h]; exact prbE_r hsz (by rw [← h]; decide)), rfl⟩
          · refine o_run rfl rfl rfl ?_
            first | refine Pstep.go (st_fieldP rfl fi67_0 rfl rfl rfl) ?_ | refine Pstep.go (st_fieldF1 rfl fi67_0 rfl rfl rfl) ?_ | refine Pstep.go (st_fieldFS rfl fi67_0 rfl rfl rfl) ?_ | refine Pstep.go (st_fieldR rfl fi67_0 rfl rfl rfl) ?_
            refine o_run rfl rfl rfl ?_
            first | refine Pstep.go (st_loadD1 rfl rfl on58 rfl) ?_ | refine Pstep.go (st_loadP rfl rfl rfl on58 rfl) ?_ | refine Pstep.go (st_loadR rfl rfl (rfl) rfl on58 rfl) ?_
            refine o_run rfl rfl rfl ?_
            refine Pstep.go (st_move rfl rfl) ?_
            refine o_run rfl rfl rfl ?_
            first | refine Pstep.go (st_indexD (k) rfl rfl (rfl) (getm hk1) Try.underlying58 rfl sz61 rfl) ?_ | refine Pstep.go (st_indexO (k) rfl rfl (rfl) (getm hk1) rfl Try.underlying58 sz61 rfl) ?_
            refine o_run rfl rfl rfl ?_
            first | refine Pstep.go (st_fieldP rfl fi61_1 rfl rfl rfl) ?_ | refine Pstep.go (st_fieldF1 rfl fi61_1 rfl rfl rfl) ?_ | refine Pstep.go (st_fieldFS rfl fi61_1 rfl rfl rfl) ?_ | refine Pstep.go (st_fieldR rfl fi61_1 rfl rfl rfl) ?_
            refine o_run rfl rfl rfl ?_
            first | refine Pstep.go (st_loadD1 rfl rfl on2 rfl) ?_ | refine Pstep.go (st_loadP rfl rfl rfl on2 rfl) ?_ | refine Pstep.go (st_loadR rfl rfl (rfl) rfl on2 rfl) ?_
            refine o_run rfl rfl rfl ?_
            first | refine Pstep.go (st_gtr rfl rfl rfl) ?_ | refine Pstep.go (st_gtrS rfl rfl rfl) ?_
            refine Pstep.go (st_pickF rfl rfl rfl rfl) ?_
            refine o_nil ?_
            first | refine a_if rfl (fun h53 => ?_) (fun h53 => ?_) | refine a_cond rfl (fun h53 => ?_) (fun h53 => ?_)
            · refine a_seq ?_
              refine a_region ?_
              refine Pstep.go (st_assign rfl rfl) ?_
              refine o_nil ?_
              refine a_ret ?_
              exact ⟨_, [], [], res_of rfl, rfl, rfl, retI (by have h := hE.2 12 (by unfold rErr; rw [hgd, if_neg h36, if_pos (by simp only [Mx]; omega)]) (by decide); rw [h]; exact prbE_r hsz (by rw [← h]; decide)), rfl⟩
            · refine a_skip ?_
              refine a_seq ?_
              refine a_region ?_
              refine Pstep.go (st_assign rfl rfl) ?_
              refine o_nil ?_
              refine a_block ?_
              refine a_loopP (α := Nat) (fun m => ⟨151, [(1, (.ptr 1 0 0)), (3, (.d (intD (k : Int)))), (5, (.d (intD (m : Int))))], [(1, [prbB2 67 p])]⟩) (fun m => m ≤ k ∧ p.ro[k].r ∉ (p.ro.take m).map Roo.r) (fun m => k - m) (0) (⟨Nat.zero_le _, by simp⟩) (lep_of hF [1] rfl rfl ⟨rfl, rfl, rfl, trivial⟩) ?_
              rintro m ⟨hm0, hm⟩
              refine a_seq ?_
              refine a_seq ?_
              refine a_region ?_
              refine Pstep.go (st_move rfl rfl) ?_
              refine Pstep.go (st_move rfl rfl) ?_
              first | refine Pstep.go (st_lss rfl rfl rfl) ?_ | refine Pstep.go (st_lssS rfl rfl rfl) ?_
              refine o_nil ?_
              first | refine a_if rfl (fun h56 => ?_) (fun h56 => ?_) | refine a_cond rfl (fun h56 => ?_) (fun h56 => ?_)
              · have hm1 : m < k := lt_cast h56
                refine a_skip ?_
                refine a_seq ?_
                refine a_block ?_
                refine a_seq ?_
                refine a_drawn [[], [0], [], [0, 1, 2], [0, 1, 2, 3], [0, 1, 2, 3, 4], [], [6], [], [6, 7, 8], [6, 7, 8, 9], [6, 7, 8, 9, 10], [0, 1, 2, 3, 4, 5, 6, 7, 8, 9, 10, 11]] mixed rfl ?_
                refine dws ?_
                have hm2 : m < p.ro.length := by omega
                first | refine d_pure [1] [] rfl rfl (fun _ => gp_none (st_fieldP rfl fi67_0 rfl rfl rfl)) ?_ | refine d_pureA [1] rfl rfl (fun _ => gp_none (st_fieldP rfl fi67_0 rfl rfl rfl)) ?_ | refine d_pure [1] [] rfl rfl (fun _ => gp_none (st_fieldF1 rfl fi67_0 rfl rfl rfl)) ?_ | refine d_pureA [1] rfl rfl (fun _ => gp_none (st_fieldF1 rfl fi67_0 rfl rfl rfl)) ?_ | refine d_pure [1] [] rfl rfl (fun _ => gp_none (st_fieldFS rfl fi67_0 rfl rfl rfl)) ?_ | refine d_pureA [1] rfl rfl (fun _ => gp_none (st_fieldFS rfl fi67_0 rfl rfl rfl)) ?_ | refine d_pure [1] [] rfl rfl (fun _ => gp_none (st_fieldR rfl fi67_0 rfl rfl rfl)) ?_ | refine d_pureA [1] rfl rfl (fun _ => gp_none (st_fieldR rfl fi67_0 rfl rfl rfl)) ?_
                first | refine d_pure [59] [] rfl rfl (fun _ => gp_none (st_loadD1 rfl rfl on58 rfl)) ?_ | refine d_pureA [59] rfl rfl (fun _ => gp_none (st_loadD1 rfl rfl on58 rfl)) ?_ | refine d_pure [59] [] rfl rfl (fun _ => gp_none (st_loadP rfl rfl rfl on58 rfl)) ?_ | refine d_pureA [59] rfl rfl (fun _ => gp_none (st_loadP rfl rfl rfl on58 rfl)) ?_ | refine d_pure [59] [] rfl rfl (fun _ => gp_none (st_loadR rfl rfl (rfl) rfl on58 rfl)) ?_ | refine d_pureA [59] rfl rfl (fun _ => gp_none (st_loadR rfl rfl (rfl) rfl on58 rfl)) ?_
                first | refine d_pure [5] [] rfl rfl (fun _ => gp_none (st_move rfl rfl)) ?_ | refine d_pureA [5] rfl rfl (fun _ => gp_none (st_move rfl rfl)) ?_
                first | refine d_pure [60, 61] [] rfl rfl (fun _ => gp_none (st_indexD (m) rfl rfl (rfl) (getm hm2) Try.underlying58 rfl sz61 rfl)) ?_ | refine d_pureA [60, 61] rfl rfl (fun _ => gp_none (st_indexD (m) rfl rfl (rfl) (getm hm2) Try.underlying58 rfl sz61 rfl)) ?_ | refine d_pure [60, 61] [] rfl rfl (fun _ => gp_none (st_indexO (m) rfl rfl (rfl) (getm hm2) rfl Try.underlying58 sz61 rfl)) ?_ | refine d_pureA [60, 61] rfl rfl (fun _ => gp_none (st_indexO (m) rfl rfl (rfl) (getm hm2) rfl Try.underlying58 sz61 rfl)) ?_
                first | refine d_pure [62] [] rfl rfl (fun _ => gp_none (st_fieldP rfl fi61_0 rfl rfl rfl)) ?_ | refine d_pureA [62] rfl rfl (fun _ => gp_none (st_fieldP rfl fi61_0 rfl rfl rfl)) ?_ | refine d_pure [62] [] rfl rfl (fun _ => gp_none (st_fieldF1 rfl fi61_0 rfl rfl rfl)) ?_ | refine d_pureA [62] rfl rfl (fun _ => gp_none (st_fieldF1 rfl fi61_0 rfl rfl rfl)) ?_ | refine d_pure [62] [] rfl rfl (fun _ => gp_none (st_fieldFS rfl fi61_0 rfl rfl rfl)) ?_ | refine d_pureA [62] rfl rfl (fun _ => gp_none (st_fieldFS rfl fi61_0 rfl rfl rfl)) ?_ | refine d_pure [62] [] rfl rfl (fun _ => gp_none (st_fieldR rfl fi61_0 rfl rfl rfl)) ?_ | refine d_pureA [62] rfl rfl (fun _ => gp_none (st_fieldR rfl fi61_0 rfl rfl rfl)) ?_
                first | refine d_pure [63] [] rfl rfl (fun _ => gp_none (st_loadDS rfl rfl rw48 rfl)) ?_ | refine d_pureA [63] rfl rfl (fun _ => gp_none (st_loadDS rfl rfl rw48 rfl)) ?_ | refine d_pure [63] [] rfl rfl (fun _ => gp_none (st_loadPS rfl rfl rw48 rfl rfl rfl)) ?_ | refine d_pureA [63] rfl rfl (fun _ => gp_none (st_loadPS rfl rfl rw48 rfl rfl rfl)) ?_ | refine d_pure [63] [] rfl rfl (fun _ => gp_none (st_loadRS rfl rfl (rfl) rfl rw48 rfl)) ?_ | refine d_pureA [63] rfl rfl (fun _ => gp_none (st_loadRS rfl rfl (rfl) rfl rw48 rfl)) ?_
                first | refine d_pure [1] [] rfl rfl (fun _ => gp_none (st_fieldP rfl fi67_0 rfl rfl rfl)) ?_ | refine d_pureA [1] rfl rfl (fun _ => gp_none (st_fieldP rfl fi67_0 rfl rfl rfl)) ?_ | refine d_pure [1] [] rfl rfl (fun _ => gp_none (st_fieldF1 rfl fi67_0 rfl rfl rfl)) ?_ | refine d_pureA [1] rfl rfl (fun _ => gp_none (st_fieldF1 rfl fi67_0 rfl rfl rfl)) ?_ | refine d_pure [1] [] rfl rfl (fun _ => gp_none (st_fieldFS rfl fi67_0 rfl rfl rfl)) ?_ | refine d_pureA [1] rfl rfl (fun _ => gp_none (st_fieldFS rfl fi67_0 rfl rfl rfl)) ?_ | refine d_pure [1] [] rfl rfl (fun _ => gp_none (st_fieldR rfl fi67_0 rfl rfl rfl)) ?_ | refine d_pureA [1] rfl rfl (fun _ => gp_none (st_fieldR rfl fi67_0 rfl rfl rfl)) ?_
                first | refine d_pure [65] [] rfl rfl (fun _ => gp_none (st_loadD1 rfl rfl on58 rfl)) ?_ | refine d_pureA [65] rfl rfl (fun _ => gp_none (st_loadD1 rfl rfl on58 rfl)) ?_ | refine d_pure [65] [] rfl rfl (fun _ => gp_none (st_loadP rfl rfl rfl on58 rfl)) ?_ | refine d_pureA [65] rfl rfl (fun _ => gp_none (st_loadP rfl rfl rfl on58 rfl)) ?_ | refine d_pure [65] [] rfl rfl (fun _ => gp_none (st_loadR rfl rfl (rfl) rfl on58 rfl)) ?_ | refine d_pureA [65] rfl rfl (fun _ => gp_none (st_loadR rfl rfl (rfl) rfl on58 rfl)) ?_
                first | refine d_pure [3] [] rfl rfl (fun _ => gp_none (st_move rfl rfl)) ?_ | refine d_pureA [3] rfl rfl (fun _ => gp_none (st_move rfl rfl)) ?_
                first | refine d_pure [66, 67] [] rfl rfl (fun _ => gp_none (st_indexD (k) rfl rfl (rfl) (getm hk1) Try.underlying58 rfl sz61 rfl)) ?_ | refine d_pureA [66, 67] rfl rfl (fun _ => gp_none (st_indexD (k) rfl rfl (rfl) (getm hk1) Try.underlying58 rfl sz61 rfl)) ?_ | refine d_pure [66, 67] [] rfl rfl (fun _ => gp_none (st_indexO (k) rfl rfl (rfl) (getm hk1) rfl Try.underlying58 sz61 rfl)) ?_ | refine d_pureA [66, 67] rfl rfl (fun _ => gp_none (st_indexO (k) rfl rfl (rfl) (getm hk1) rfl Try.underlying58 sz61 rfl)) ?_
                first | refine d_pure [68] [] rfl rfl (fun _ => gp_none (st_fieldP rfl fi61_0 rfl rfl rfl)) ?_ | refine d_pureA [68] rfl rfl (fun _ => gp_none (st_fieldP rfl fi61_0 rfl rfl rfl)) ?_ | refine d_pure [68] [] rfl rfl (fun _ => gp_none (st_fieldF1 rfl fi61_0 rfl rfl rfl)) ?_ | refine d_pureA [68] rfl rfl (fun _ => gp_none (st_fieldF1 rfl fi61_0 rfl rfl rfl)) ?_ | refine d_pure [68] [] rfl rfl (fun _ => gp_none (st_fieldFS rfl fi61_0 rfl rfl rfl)) ?_ | refine d_pureA [68] rfl rfl (fun _ => gp_none (st_fieldFS rfl fi61_0 rfl rfl rfl)) ?_ | refine d_pure [68] [] rfl rfl (fun _ => gp_none (st_fieldR rfl fi61_0 rfl rfl rfl)) ?_ | refine d_pureA [68] rfl rfl (fun _ => gp_none (st_fieldR rfl fi61_0 rfl rfl rfl)) ?_
                first | refine d_pure [69] [] rfl rfl (fun _ => gp_none (st_loadDS rfl rfl rw48 rfl)) ?_ | refine d_pureA [69] rfl rfl (fun _ => gp_none (st_loadDS rfl rfl rw48 rfl)) ?_ | refine d_pure [69] [] rfl rfl (fun _ => gp_none (st_loadPS rfl rfl rw48 rfl rfl rfl)) ?_ | refine d_pureA [69] rfl rfl (fun _ => gp_none (st_loadPS rfl rfl rw48 rfl rfl rfl)) ?_ | refine d_pure [69] [] rfl rfl (fun _ => gp_none (st_loadRS rfl rfl (rfl) rfl rw48 rfl)) ?_ | refine d_pureA [69] rfl rfl (fun _ => gp_none (st_loadRS rfl rfl (rfl) rfl rw48 rfl)) ?_
                refine dwc 12 rfl rfl rfl ?_
                refine dw1 13 rfl rfl ?_
                refine Pstep.go (st_eqlSt (la := rscC p.ro[m].r) (lb := rscC p.ro[k].r) (ds := rscT) (by kernel_rfl) (by kernel_rfl) (by kernel_rfl) rfl rfl rfl rfl (rsc_plain _) (rsc_plain _) (rsc_eqC _ _) rfl) ?_
                refine o_nil ⟨rfl, ?_⟩
                refine dwe ?_
                first | refine a_if rfl (fun h71 => ?_) (fun h71 => ?_) | refine a_cond rfl (fun h71 => ?_) (fun h71 => ?_)
                · refine a_seq ?_
                  refine a_region ?_
                  refine Pstep.go (st_assign rfl rfl) ?_
                  refine o_nil ?_
                  refine a_ret ?_
                  exact ⟨_, [], [], res_of rfl, rfl, rfl, retI (by have h := hE.2 7 (by unfold rErr; rw [hgd, if_neg h36, if_neg (by simp only [Mx]; omega), if_pos (mem_tk hk1 hm1 h71)]) (by decide); rw [h]; exact prbE_r hsz (by rw [← h]; decide)), rfl⟩
                · refine a_skip ?_
                  refine a_region ?_
                  refine Pstep.go (st_move rfl rfl) ?_
                  refine Pstep.go (st_add rfl rfl (wrapS (m + 1) (by omega)) rfl) ?_
                  refine Pstep.go (st_assign rfl rfl) ?_
                  refine o_nil ?_
                  exact ⟨m + 1, ⟨by show m + 1 ≤ _; omega, nmem_next hm2 hm h71⟩, by show k - (m + 1) < k - m; omega, lep_of hF [1] rfl (rfl) ⟨rfl, rfl, rfl, trivial⟩⟩
              · have hnot : p.ro[k].r ∉ (p.ro.take k).map Roo.r := by have e : m = k := by { have h := h56; omega }; subst e; exact hm
                refine a_exit ?_
                refine a_region ?_
                refine Pstep.go (st_move rfl rfl) ?_
                refine Pstep.go (st_add rfl rfl (wrapS (k + 1) (by omega)) rfl) ?_
                refine Pstep.go (st_assign rfl rfl) ?_
                refine o_nil ?_
                exact ⟨k + 1, ⟨by show k + 1 ≤ _; omega, hE.1 (by unfold rErr; rw [hgd, if_neg h36, if_neg (by simp only [Mx]; omega), if_neg hnot])⟩, by show p.ro.length - (k + 1) < p.ro.length - k; omega, lep_of hF [1] rfl (rfl) ⟨rfl, rfl, trivial⟩⟩
      · refine a_exit ?_
        refine a_seq ?_
        refine a_seq ?_
        have hr0 : roomsE p.ro = 0 := by rw [hk, List.drop_of_length_le (by have h := h25; simp only [List.length_range]; omega)]; rfl
        refine a_region ?_
        refine Pstep.go (st_assign rfl rfl) ?_
        refine o_nil ?_
        refine a_block ?_
        refine a_loopP (α := Nat) (fun k => ⟨151, [(1, (.ptr 1 0 0)), (6, (.d (intD (k : Int))))], [(1, [prbB2 67 p])]⟩) (fun k => k ≤ p.it.length ∧ itemsE p.it = fst0 (((List.range p.it.length).drop k).map (iErr p.it))) (fun k => p.it.length - k) (0) (⟨Nat.zero_le _, rfl⟩) (lep_of hF [1] rfl rfl ⟨rfl, rfl, trivial⟩) ?_
        rintro k ⟨hk0, hk⟩
        refine a_seq ?_
        refine a_seq ?_
        refine a_region ?_
        refine Pstep.go (st_move rfl rfl) ?_
        first | refine Pstep.go (st_fieldP rfl fi67_1 rfl rfl rfl) ?_ | refine Pstep.go (st_fieldF1 rfl fi67_1 rfl rfl rfl) ?_ | refine Pstep.go (st_fieldFS rfl fi67_1 rfl rfl rfl) ?_ | refine Pstep.go (st_fieldR rfl fi67_1 rfl rfl rfl) ?_
        first | refine Pstep.go (st_loadD1 rfl rfl on65 rfl) ?_ | refine Pstep.go (st_loadP rfl rfl rfl on65 rfl) ?_ | refine Pstep.go (st_loadR rfl rfl (rfl) rfl on65 rfl) ?_
        first | refine Pstep.go (st_lenMap rfl Try.underlying65 rfl) ?_ | refine Pstep.go (st_lenD rfl rfl Try.underlying65 rfl) ?_ | refine Pstep.go (st_lenO rfl Try.underlying65 rfl) ?_ | refine Pstep.go (st_lenSL rfl Try.underlying65 rfl) ?_ | refine Pstep.go (st_lenS rfl Try.underlying65 rfl) ?_
        first | refine Pstep.go (st_lss rfl rfl rfl) ?_ | refine Pstep.go (st_lssS rfl rfl rfl) ?_
        refine o_nil ?_
        first | refine a_if rfl (fun h76 => ?_) (fun h76 => ?_) | refine a_cond rfl (fun h76 => ?_) (fun h76 => ?_)
        · have hk1 : k < p.it.length := lt_cast h76
          refine a_skip ?_
          refine a_seq ?_
          refine a_block ?_
          refine a_seq ?_
          refine a_seq ?_
          refine a_region ?_
          have hE := range_cases hk1 hk
          have hgd := getD_at itm0 hk1
          have hgi := g3 _ (List.getElem_mem hk1)
          first | refine Pstep.go (st_fieldP rfl fi67_1 rfl rfl rfl) ?_ | refine Pstep.go (st_fieldF1 rfl fi67_1 rfl rfl rfl) ?_ | refine Pstep.go (st_fieldFS rfl fi67_1 rfl rfl rfl) ?_ | refine Pstep.go (st_fieldR rfl fi67_1 rfl rfl rfl) ?_
          first | refine Pstep.go (st_loadD1 rfl rfl on65 rfl) ?_ | refine Pstep.go (st_loadP rfl rfl rfl on65 rfl) ?_ | refine Pstep.go (st_loadR rfl rfl (rfl) rfl on65 rfl) ?_
          refine Pstep.go (st_move rfl rfl) ?_
          first | refine Pstep.go (st_indexD (k) rfl rfl (rfl) (getm hk1) Try.underlying65 rfl sz26 rfl) ?_ | refine Pstep.go (st_indexO (k) rfl rfl (rfl) (getm hk1) rfl Try.underlying65 sz26 rfl) ?_
          first | refine Pstep.go (st_loadDS rfl rfl rw26 rfl) ?_ | refine Pstep.go (st_loadPS rfl rfl rw26 rfl rfl rfl) ?_ | refine Pstep.go (st_loadRS rfl rfl (rfl) rfl rw26 rfl) ?_
          refine Pstep.go (st_callP (refcheck_p p.it[k] hgi.1 hgi.2.1 hgi.2.2) rfl rfl) ?_
          refine Pstep.go (st_assign rfl rfl) ?_
          refine o_nil ?_
          refine a_seq ?_
          refine a_region ?_
          refine Pstep.go (st_move rfl rfl) ?_
          first | refine Pstep.go (st_neq rfl rfl rfl) ?_ | refine Pstep.go (st_neqSL rfl rfl rfl) ?_ | refine Pstep.go (st_neqS rfl rfl rfl) ?_ | refine Pstep.go (st_neqB Try.underlying3 rfl rfl rfl) ?_ | refine Pstep.go (st_neqP Try.underlying3 rfl rfl rfl) ?_ | refine Pstep.go (st_neqN Try.underlying3 rfl rfl) ?_ | refine Pstep.go (st_neqF Try.underlying3 rfl rfl rfl) ?_ | refine Pstep.go (st_neqFN Try.underlying3 rfl rfl) ?_
          refine o_nil ?_
          first | refine a_if rfl (fun h86 => ?_) (fun h86 => ?_) | refine a_cond rfl (fun h86 => ?_) (fun h86 => ?_)
          · refine a_seq ?_
            refine a_region ?_
            refine Pstep.go (st_move rfl rfl) ?_
            refine Pstep.go (st_assign rfl rfl) ?_
            refine o_nil ?_
            refine a_ret ?_
            exact ⟨_, [], [], res_of rfl, rfl, rfl, retI (prbE_i hsz hr0 (hE.2 _ (by unfold iErr; rw [hgd, if_pos h86]) h86) h86), rfl⟩
          · refine a_skip ?_
            refine a_seq ?_
            refine a_region ?_
            refine Pstep.go (st_assign rfl rfl) ?_
            refine o_nil ?_
            refine a_block ?_
            refine a_loopP (α := Nat) (fun m => ⟨151, [(1, (.ptr 1 0 0)), (6, (.d (intD (k : Int)))), (8, (.d (intD (m : Int))))], [(1, [prbB2 67 p])]⟩) (fun m => m ≤ k ∧ p.it[k].id ∉ (p.it.take m).map Itm.id ∧ p.it[k].sq ∉ (p.it.take m).map Itm.sq) (fun m => k - m) (0) (⟨Nat.zero_le _, by simp, by simp⟩) (lep_of hF [1] rfl rfl ⟨rfl, rfl, rfl, trivial⟩) ?_
            rintro m ⟨hm0, hma, hmb⟩
            refine a_seq ?_
            refine a_seq ?_
            refine a_region ?_
            refine Pstep.go (st_move rfl rfl) ?_
            refine Pstep.go (st_move rfl rfl) ?_
            first | refine Pstep.go (st_lss rfl rfl rfl) ?_ | refine Pstep.go (st_lssS rfl rfl rfl) ?_
            refine o_nil ?_
            first | refine a_if rfl (fun h90 => ?_) (fun h90 => ?_) | refine a_cond rfl (fun h90 => ?_) (fun h90 => ?_)
            · have hm1 : m < k := lt_cast h90
              refine a_skip ?_
              refine a_seq ?_
              refine a_block ?_
              refine a_seq ?_
              refine a_drawn [[], [0], [], [0, 1, 2], [0, 1, 2, 3], [0, 1, 2, 3, 4], [], [6], [], [6, 7, 8], [6, 7, 8, 9], [6, 7, 8, 9, 10], [0, 1, 2, 3, 4, 5, 6, 7, 8, 9, 10, 11], [0, 1, 2, 3, 4, 5, 6, 7, 8, 9, 10, 11, 12], [0, 1, 2, 3, 4, 5, 6, 7, 8, 9, 10, 11, 12, 13], [0, 1, 2, 3, 4, 5, 6, 7, 8, 9, 10, 11, 12, 13, 14], [0, 1, 2, 3, 4, 5, 6, 7, 8, 9, 10, 11, 12, 13], [0, 1, 2, 3, 4, 5, 6, 7, 8, 9, 10, 11, 12, 13, 14, 15, 16], [0, 1, 2, 3, 4, 5, 6, 7, 8, 9, 10, 11, 12, 13, 14, 15, 16, 17], [0, 1, 2, 3, 4, 5, 6, 7, 8, 9, 10, 11, 12, 13, 14, 15, 16, 17, 18], [0, 1, 2, 3, 4, 5, 6, 7, 8, 9, 10, 11, 12, 13], [0, 1, 2, 3, 4, 5, 6, 7, 8, 9, 10, 11, 12, 13, 20], [0, 1, 2, 3, 4, 5, 6, 7, 8, 9, 10, 11, 12, 13], [0, 1, 2, 3, 4, 5, 6, 7, 8, 9, 10, 11, 12, 13, 20, 21, 22], [0, 1, 2, 3, 4, 5, 6, 7, 8, 9, 10, 11, 12, 13, 20, 21, 22, 23], [0, 1, 2, 3, 4, 5, 6, 7, 8, 9, 10, 11, 12, 13, 20, 21, 22, 23, 24], [0, 1, 2, 3, 4, 5, 6, 7, 8, 9, 10, 11, 12, 13, 14, 15, 16, 17, 18, 19, 20, 21, 22, 23, 24, 25], [0, 1, 2, 3, 4, 5, 6, 7, 8, 9, 10, 11, 12, 13, 14, 15, 16, 17, 18, 19, 20, 21, 22, 23, 24, 25, 26]] mixed rfl ?_
              refine dws ?_
              have hm2 : m < p.it.length := by omega
              first | refine d_pure [1] [] rfl rfl (fun _ => gp_none (st_fieldP rfl fi67_1 rfl rfl rfl)) ?_ | refine d_pureA [1] rfl rfl (fun _ => gp_none (st_fieldP rfl fi67_1 rfl rfl rfl)) ?_ | refine d_pure [1] [] rfl rfl (fun _ => gp_none (st_fieldF1 rfl fi67_1 rfl rfl rfl)) ?_ | refine d_pureA [1] rfl rfl (fun _ => gp_none (st_fieldF1 rfl fi67_1 rfl rfl rfl)) ?_ | refine d_pure [1] [] rfl rfl (fun _ => gp_none (st_fieldFS rfl fi67_1 rfl rfl rfl)) ?_ | refine d_pureA [1] rfl rfl (fun _ => gp_none (st_fieldFS rfl fi67_1 rfl rfl rfl)) ?_ | refine d_pure [1] [] rfl rfl (fun _ => gp_none (st_fieldR rfl fi67_1 rfl rfl rfl)) ?_ | refine d_pureA [1] rfl rfl (fun _ => gp_none (st_fieldR rfl fi67_1 rfl rfl rfl)) ?_
              first | refine d_pure [93] [] rfl rfl (fun _ => gp_none (st_loadD1 rfl rfl on65 rfl)) ?_ | refine d_pureA [93] rfl rfl (fun _ => gp_none (st_loadD1 rfl rfl on65 rfl)) ?_ | refine d_pure [93] [] rfl rfl (fun _ => gp_none (st_loadP rfl rfl rfl on65 rfl)) ?_ | refine d_pureA [93] rfl rfl (fun _ => gp_none (st_loadP rfl rfl rfl on65 rfl)) ?_ | refine d_pure [93] [] rfl rfl (fun _ => gp_none (st_loadR rfl rfl (rfl) rfl on65 rfl)) ?_ | refine d_pureA [93] rfl rfl (fun _ => gp_none (st_loadR rfl rfl (rfl) rfl on65 rfl)) ?_
              first | refine d_pure [8] [] rfl rfl (fun _ => gp_none (st_move rfl rfl)) ?_ | refine d_pureA [8] rfl rfl (fun _ => gp_none (st_move rfl rfl)) ?_
              first | refine d_pure [94, 95] [] rfl rfl (fun _ => gp_none (st_indexD (m) rfl rfl (rfl) (getm hm2) Try.underlying65 rfl sz26 rfl)) ?_ | refine d_pureA [94, 95] rfl rfl (fun _ => gp_none (st_indexD (m) rfl rfl (rfl) (getm hm2) Try.underlying65 rfl sz26 rfl)) ?_ | refine d_pure [94, 95] [] rfl rfl (fun _ => gp_none (st_indexO (m) rfl rfl (rfl) (getm hm2) rfl Try.underlying65 sz26 rfl)) ?_ | refine d_pureA [94, 95] rfl rfl (fun _ => gp_none (st_indexO (m) rfl rfl (rfl) (getm hm2) rfl Try.underlying65 sz26 rfl)) ?_
              first | refine d_pure [96] [] rfl rfl (fun _ => gp_none (st_fieldP rfl fi26_0 rfl rfl rfl)) ?_ | refine d_pureA [96] rfl rfl (fun _ => gp_none (st_fieldP rfl fi26_0 rfl rfl rfl)) ?_ | refine d_pure [96] [] rfl rfl (fun _ => gp_none (st_fieldF1 rfl fi26_0 rfl rfl rfl)) ?_ | refine d_pureA [96] rfl rfl (fun _ => gp_none (st_fieldF1 rfl fi26_0 rfl rfl rfl)) ?_ | refine d_pure [96] [] rfl rfl (fun _ => gp_none (st_fieldFS rfl fi26_0 rfl rfl rfl)) ?_ | refine d_pureA [96] rfl rfl (fun _ => gp_none (st_fieldFS rfl fi26_0 rfl rfl rfl)) ?_ | refine d_pure [96] [] rfl rfl (fun _ => gp_none (st_fieldR rfl fi26_0 rfl rfl rfl)) ?_ | refine d_pureA [96] rfl rfl (fun _ => gp_none (st_fieldR rfl fi26_0 rfl rfl rfl)) ?_
              first | refine d_pure [97] [] rfl rfl (fun _ => gp_none (st_loadD1 rfl rfl on3 rfl)) ?_ | refine d_pureA [97] rfl rfl (fun _ => gp_none (st_loadD1 rfl rfl on3 rfl)) ?_ | refine d_pure [97] [] rfl rfl (fun _ => gp_none (st_loadP rfl rfl rfl on3 rfl)) ?_ | refine d_pureA [97] rfl rfl (fun _ => gp_none (st_loadP rfl rfl rfl on3 rfl)) ?_ | refine d_pure [97] [] rfl rfl (fun _ => gp_none (st_loadR rfl rfl (rfl) rfl on3 rfl)) ?_ | refine d_pureA [97] rfl rfl (fun _ => gp_none (st_loadR rfl rfl (rfl) rfl on3 rfl)) ?_
              first | refine d_pure [1] [] rfl rfl (fun _ => gp_none (st_fieldP rfl fi67_1 rfl rfl rfl)) ?_ | refine d_pureA [1] rfl rfl (fun _ => gp_none (st_fieldP rfl fi67_1 rfl rfl rfl)) ?_ | refine d_pure [1] [] rfl rfl (fun _ => gp_none (st_fieldF1 rfl fi67_1 rfl rfl rfl)) ?_ | refine d_pureA [1] rfl rfl (fun _ => gp_none (st_fieldF1 rfl fi67_1 rfl rfl rfl)) ?_ | refine d_pure [1] [] rfl rfl (fun _ => gp_none (st_fieldFS rfl fi67_1 rfl rfl rfl)) ?_ | refine d_pureA [1] rfl rfl (fun _ => gp_none (st_fieldFS rfl fi67_1 rfl rfl rfl)) ?_ | refine d_pure [1] [] rfl rfl (fun _ => gp_none (st_fieldR rfl fi67_1 rfl rfl rfl)) ?_ | refine d_pureA [1] rfl rfl (fun _ => gp_none (st_fieldR rfl fi67_1 rfl rfl rfl)) ?_
              first | refine d_pure [99] [] rfl rfl (fun _ => gp_none (st_loadD1 rfl rfl on65 rfl)) ?_ | refine d_pureA [99] rfl rfl (fun _ => gp_none (st_loadD1 rfl rfl on65 rfl)) ?_ | refine d_pure [99] [] rfl rfl (fun _ => gp_none (st_loadP rfl rfl rfl on65 rfl)) ?_ | refine d_pureA [99] rfl rfl (fun _ => gp_none (st_loadP rfl rfl rfl on65 rfl)) ?_ | refine d_pure [99] [] rfl rfl (fun _ => gp_none (st_loadR rfl rfl (rfl) rfl on65 rfl)) ?_ | refine d_pureA [99] rfl rfl (fun _ => gp_none (st_loadR rfl rfl (rfl) rfl on65 rfl)) ?_
              first | refine d_pure [6] [] rfl rfl (fun _ => gp_none (st_move rfl rfl)) ?_ | refine d_pureA [6] rfl rfl (fun _ => gp_none (st_move rfl rfl)) ?_
              first | refine d_pure [100, 101] [] rfl rfl (fun _ => gp_none (st_indexD (k) rfl rfl (rfl) (getm hk1) Try.underlying65 rfl sz26 rfl)) ?_ | refine d_pureA [100, 101] rfl rfl (fun _ => gp_none (st_indexD (k) rfl rfl (rfl) (getm hk1) Try.underlying65 rfl sz26 rfl)) ?_ | refine d_pure [100, 101] [] rfl rfl (fun _ => gp_none (st_indexO (k) rfl rfl (rfl) (getm hk1) rfl Try.underlying65 sz26 rfl)) ?_ | refine d_pureA [100, 101] rfl rfl (fun _ => gp_none (st_indexO (k) rfl rfl (rfl) (getm hk1) rfl Try.underlying65 sz26 rfl)) ?_
              first | refine d_pure [102] [] rfl rfl (fun _ => gp_none (st_fieldP rfl fi26_0 rfl rfl rfl)) ?_ | refine d_pureA [102] rfl rfl (fun _ => gp_none (st_fieldP rfl fi26_0 rfl rfl rfl)) ?_ | refine d_pure [102] [] rfl rfl (fun _ => gp_none (st_fieldF1 rfl fi26_0 rfl rfl rfl)) ?_ | refine d_pureA [102] rfl rfl (fun _ => gp_none (st_fieldF1 rfl fi26_0 rfl rfl rfl)) ?_ | refine d_pure [102] [] rfl rfl (fun _ => gp_none (st_fieldFS rfl fi26_0 rfl rfl rfl)) ?_ | refine d_pureA [102] rfl rfl (fun _ => gp_none (st_fieldFS rfl fi26_0 rfl rfl rfl)) ?_ | refine d_pure [102] [] rfl rfl (fun _ => gp_none (st_fieldR rfl fi26_0 rfl rfl rfl)) ?_ | refine d_pureA [102] rfl rfl (fun _ => gp_none (st_fieldR rfl fi26_0 rfl rfl rfl)) ?_
              first | refine d_pure [103] [] rfl rfl (fun _ => gp_none (st_loadD1 rfl rfl on3 rfl)) ?_ | refine d_pureA [103] rfl rfl (fun _ => gp_none (st_loadD1 rfl rfl on3 rfl)) ?_ | refine d_pure [103] [] rfl rfl (fun _ => gp_none (st_loadP rfl rfl rfl on3 rfl)) ?_ | refine d_pureA [103] rfl rfl (fun _ => gp_none (st_loadP rfl rfl rfl on3 rfl)) ?_ | refine d_pure [103] [] rfl rfl (fun _ => gp_none (st_loadR rfl rfl (rfl) rfl on3 rfl)) ?_ | refine d_pureA [103] rfl rfl (fun _ => gp_none (st_loadR rfl rfl (rfl) rfl on3 rfl)) ?_
              refine dwc 12 rfl rfl rfl ?_
              refine dw1 13 rfl rfl ?_
              first | refine Pstep.go (st_eql rfl rfl rfl) ?_ | refine Pstep.go (st_eqlSL rfl rfl rfl) ?_ | refine Pstep.go (st_eqlS rfl rfl rfl) ?_ | refine Pstep.go (st_eqlB Try.underlying3 rfl rfl rfl) ?_ | refine Pstep.go (st_eqlP Try.underlying3 rfl rfl rfl) ?_ | refine Pstep.go (st_eqlN Try.underlying3 rfl rfl) ?_ | refine Pstep.go (st_eqlF Try.underlying3 rfl rfl rfl) ?_ | refine Pstep.go (st_eqlFN Try.underlying3 rfl rfl) ?_
              refine o_nil ⟨rfl, ?_⟩
              refine dw1 14 rfl rfl ?_
              refine Pstep.go (st_move rfl rfl) ?_
              first | refine o_splitP 106 rfl (fun h106 => ?_) (fun h106 => ?_) | refine o_splitB 106 rfl (fun h106 => ?_) (fun h106 => ?_)
              · refine o_nil ⟨rfl, ?_⟩
                refine dws ?_
                refine d_pure [1, 106] [] rfl rfl (fun _ => gp_pass rfl rfl rfl rfl) ?_
                refine d_pure [107, 106] [] rfl rfl (fun _ => gp_pass rfl rfl rfl rfl) ?_
                refine d_pure [8, 106] [] rfl rfl (fun _ => gp_pass rfl rfl rfl rfl) ?_
                refine d_pure [108, 109, 106] [] rfl rfl (fun _ => gp_pass rfl rfl rfl rfl) ?_
                refine d_pure [110, 106] [] rfl rfl (fun _ => gp_pass rfl rfl rfl rfl) ?_
                refine d_pure [111, 106] [] rfl rfl (fun _ => gp_pass rfl rfl rfl rfl) ?_
                refine d_pure [1, 106] [] rfl rfl (fun _ => gp_pass rfl rfl rfl rfl) ?_
                refine d_pure [113, 106] [] rfl rfl (fun _ => gp_pass rfl rfl rfl rfl) ?_
                refine d_pure [6, 106] [] rfl rfl (fun _ => gp_pass rfl rfl rfl rfl) ?_
                refine d_pure [114, 115, 106] [] rfl rfl (fun _ => gp_pass rfl rfl rfl rfl) ?_
                refine d_pure [116, 106] [] rfl rfl (fun _ => gp_pass rfl rfl rfl rfl) ?_
                refine d_pure [117, 106] [] rfl rfl (fun _ => gp_pass rfl rfl rfl rfl) ?_
                refine dwc 26 rfl rfl rfl ?_
                refine dw1 27 rfl rfl ?_
                refine o_pass rfl rfl rfl rfl ?_
                refine o_nil ⟨rfl, ?_⟩
                refine dw1 28 rfl rfl ?_
                refine Pstep.go (st_pickT rfl rfl rfl rfl) ?_
                refine o_nil ⟨rfl, ?_⟩
                refine dwe ?_
                refine a_true rfl rfl ?_
                refine a_seq ?_
                refine a_region ?_
                refine Pstep.go (st_assign rfl rfl) ?_
                refine o_nil ?_
                refine a_ret ?_
                exact ⟨_, [], [], res_of rfl, rfl, rfl, retI (prbE_i hsz hr0 (hE.2 7 (by unfold iErr; rw [hgd, if_neg h86, if_pos (by first | (exact .inl (mem_tk hk1 hm1 h106)) | (exact .inr (mem_tk hk1 hm1 (by assumption))))]) (by decide)) (by decide)), rfl⟩
              · refine o_nil ⟨rfl, ?_⟩
                refine dws ?_
                first | refine d_pure [1, 106] [] rfl rfl (fun _ => gp_run rfl rfl rfl (st_fieldP rfl fi67_1 rfl rfl rfl)) ?_ | refine d_pureA [1, 106] rfl rfl (fun _ => gp_run rfl rfl rfl (st_fieldP rfl fi67_1 rfl rfl rfl)) ?_ | refine d_pure [1, 106] [] rfl rfl (fun _ => gp_run rfl rfl rfl (st_fieldF1 rfl fi67_1 rfl rfl rfl)) ?_ | refine d_pureA [1, 106] rfl rfl (fun _ => gp_run rfl rfl rfl (st_fieldF1 rfl fi67_1 rfl rfl rfl)) ?_ | refine d_pure [1, 106] [] rfl rfl (fun _ => gp_run rfl rfl rfl (st_fieldFS rfl fi67_1 rfl rfl rfl)) ?_ | refine d_pureA [1, 106] rfl rfl (fun _ => gp_run rfl rfl rfl (st_fieldFS rfl fi67_1 rfl rfl rfl)) ?_ | refine d_pure [1, 106] [] rfl rfl (fun _ => gp_run rfl rfl rfl (st_fieldR rfl fi67_1 rfl rfl rfl)) ?_ | refine d_pureA [1, 106] rfl rfl (fun _ => gp_run rfl rfl rfl (st_fieldR rfl fi67_1 rfl rfl rfl)) ?_
                first | refine d_pure [107, 106] [] rfl rfl (fun _ => gp_run rfl rfl rfl (st_loadD1 rfl rfl on65 rfl)) ?_ | refine d_pureA [107, 106] rfl rfl (fun _ => gp_run rfl rfl rfl (st_loadD1 rfl rfl on65 rfl)) ?_ | refine d_pure [107, 106] [] rfl rfl (fun _ => gp_run rfl rfl rfl (st_loadP rfl rfl rfl on65 rfl)) ?_ | refine d_pureA [107, 106] rfl rfl (fun _ => gp_run rfl rfl rfl (st_loadP rfl rfl rfl on65 rfl)) ?_ | refine d_pure [107, 106] [] rfl rfl (fun _ => gp_run rfl rfl rfl (st_loadR rfl rfl (rfl) rfl on65 rfl)) ?_ | refine d_pureA [107, 106] rfl rfl (fun _ => gp_run rfl rfl rfl (st_loadR rfl rfl (rfl) rfl on65 rfl)) ?_
                first | refine d_pure [8, 106] [] rfl rfl (fun _ => gp_run rfl rfl rfl (st_move rfl rfl)) ?_ | refine d_pureA [8, 106] rfl rfl (fun _ => gp_run rfl rfl rfl (st_move rfl rfl)) ?_
                first | refine d_pure [108, 109, 106] [] rfl rfl (fun _ => gp_run rfl rfl rfl (st_indexD (m) rfl rfl (rfl) (getm hm2) Try.underlying65 rfl sz26 rfl)) ?_ | refine d_pureA [108, 109, 106] rfl rfl (fun _ => gp_run rfl rfl rfl (st_indexD (m) rfl rfl (rfl) (getm hm2) Try.underlying65 rfl sz26 rfl)) ?_ | refine d_pure [108, 109, 106] [] rfl rfl (fun _ => gp_run rfl rfl rfl (st_indexO (m) rfl rfl (rfl) (getm hm2) rfl Try.underlying65 sz26 rfl)) ?_ | refine d_pureA [108, 109, 106] rfl rfl (fun _ => gp_run rfl rfl rfl (st_indexO (m) rfl rfl (rfl) (getm hm2) rfl Try.underlying65 sz26 rfl)) ?_
                first | refine d_pure [110, 106] [] rfl rfl (fun _ => gp_run rfl rfl rfl (st_fieldP rfl fi26_2 rfl rfl rfl)) ?_ | refine d_pureA [110, 106] rfl rfl (fun _ => gp_run rfl rfl rfl (st_fieldP rfl fi26_2 rfl rfl rfl)) ?_ | refine d_pure [110, 106] [] rfl rfl (fun _ => gp_run rfl rfl rfl (st_fieldF1 rfl fi26_2 rfl rfl rfl)) ?_ | refine d_pureA [110, 106] rfl rfl (fun _ => gp_run rfl rfl rfl (st_fieldF1 rfl fi26_2 rfl rfl rfl)) ?_ | refine d_pure [110, 106] [] rfl rfl (fun _ => gp_run rfl rfl rfl (st_fieldFS rfl fi26_2 rfl rfl rfl)) ?_ | refine d_pureA [110, 106] rfl rfl (fun _ => gp_run rfl rfl rfl (st_fieldFS rfl fi26_2 rfl rfl rfl)) ?_ | refine d_pure [110, 106] [] rfl rfl (fun _ => gp_run rfl rfl rfl (st_fieldR rfl fi26_2 rfl rfl rfl)) ?_ | refine d_pureA [110, 106] rfl rfl (fun _ => gp_run rfl rfl rfl (st_fieldR rfl fi26_2 rfl rfl rfl)) ?_
                first | refine d_pure [111, 106] [] rfl rfl (fun _ => gp_run rfl rfl rfl (st_loadD1 rfl rfl on3 rfl)) ?_ | refine d_pureA [111, 106] rfl rfl (fun _ => gp_run rfl rfl rfl (st_loadD1 rfl rfl on3 rfl)) ?_ | refine d_pure [111, 106] [] rfl rfl (fun _ => gp_run rfl rfl rfl (st_loadP rfl rfl rfl on3 rfl)) ?_ | refine d_pureA [111, 106] rfl rfl (fun _ => gp_run rfl rfl rfl (st_loadP rfl rfl rfl on3 rfl)) ?_ | refine d_pure [111, 106] [] rfl rfl (fun _ => gp_run rfl rfl rfl (st_loadR rfl rfl (rfl) rfl on3 rfl)) ?_ | refine d_pureA [111, 106] rfl rfl (fun _ => gp_run rfl rfl rfl (st_loadR rfl rfl (rfl) rfl on3 rfl)) ?_
                first | refine d_pure [1, 106] [] rfl rfl (fun _ => gp_run rfl rfl rfl (st_fieldP rfl fi67_1 rfl rfl rfl)) ?_ | refine d_pureA [1, 106] rfl rfl (fun _ => gp_run rfl rfl rfl (st_fieldP rfl fi67_1 rfl rfl rfl)) ?_ | refine d_pure [1, 106] [] rfl rfl (fun _ => gp_run rfl rfl rfl (st_fieldF1 rfl fi67_1 rfl rfl rfl)) ?_ | refine d_pureA [1, 106] rfl rfl (fun _ => gp_run rfl rfl rfl (st_fieldF1 rfl fi67_1 rfl rfl rfl)) ?_ | refine d_pure [1, 106] [] rfl rfl (fun _ => gp_run rfl rfl rfl (st_fieldFS rfl fi67_1 rfl rfl rfl)) ?_ | refine d_pureA [1, 106] rfl rfl (fun _ => gp_run rfl rfl rfl (st_fieldFS rfl fi67_1 rfl rfl rfl)) ?_ | refine d_pure [1, 106] [] rfl rfl (fun _ => gp_run rfl rfl rfl (st_fieldR rfl fi67_1 rfl rfl rfl)) ?_ | refine d_pureA [1, 106] rfl rfl (fun _ => gp_run rfl rfl rfl (st_fieldR rfl fi67_1 rfl rfl rfl)) ?_
                first | refine d_pure [113, 106] [] rfl rfl (fun _ => gp_run rfl rfl rfl (st_loadD1 rfl rfl on65 rfl)) ?_ | refine d_pureA [113, 106] rfl rfl (fun _ => gp_run rfl rfl rfl (st_loadD1 rfl rfl on65 rfl)) ?_ | refine d_pure [113, 106] [] rfl rfl (fun _ => gp_run rfl rfl rfl (st_loadP rfl rfl rfl on65 rfl)) ?_ | refine d_pureA [113, 106] rfl rfl (fun _ => gp_run rfl rfl rfl (st_loadP rfl rfl rfl on65 rfl)) ?_ | refine d_pure [113, 106] [] rfl rfl (fun _ => gp_run rfl rfl rfl (st_loadR rfl rfl (rfl) rfl on65 rfl)) ?_ | refine d_pureA [113, 106] rfl rfl (fun _ => gp_run rfl rfl rfl (st_loadR rfl rfl (rfl) rfl on65 rfl)) ?_
                first | refine d_pure [6, 106] [] rfl rfl (fun _ => gp_run rfl rfl rfl (st_move rfl rfl)) ?_ | refine d_pureA [6, 106] rfl rfl (fun _ => gp_run rfl rfl rfl (st_move rfl rfl)) ?_
                first | refine d_pure [114, 115, 106] [] rfl rfl (fun _ => gp_run rfl rfl rfl (st_indexD (k) rfl rfl (rfl) (getm hk1) Try.underlying65 rfl sz26 rfl)) ?_ | refine d_pureA [114, 115, 106] rfl rfl (fun _ => gp_run rfl rfl rfl (st_indexD (k) rfl rfl (rfl) (getm hk1) Try.underlying65 rfl sz26 rfl)) ?_ | refine d_pure [114, 115, 106] [] rfl rfl (fun _ => gp_run rfl rfl rfl (st_indexO (k) rfl rfl (rfl) (getm hk1) rfl Try.underlying65 sz26 rfl)) ?_ | refine d_pureA [114, 115, 106] rfl rfl (fun _ => gp_run rfl rfl rfl (st_indexO (k) rfl rfl (rfl) (getm hk1) rfl Try.underlying65 sz26 rfl)) ?_
                first | refine d_pure [116, 106] [] rfl rfl (fun _ => gp_run rfl rfl rfl (st_fieldP rfl fi26_2 rfl rfl rfl)) ?_ | refine d_pureA [116, 106] rfl rfl (fun _ => gp_run rfl rfl rfl (st_fieldP rfl fi26_2 rfl rfl rfl)) ?_ | refine d_pure [116, 106] [] rfl rfl (fun _ => gp_run rfl rfl rfl (st_fieldF1 rfl fi26_2 rfl rfl rfl)) ?_ | refine d_pureA [116, 106] rfl rfl (fun _ => gp_run rfl rfl rfl (st_fieldF1 rfl fi26_2 rfl rfl rfl)) ?_ | refine d_pure [116, 106] [] rfl rfl (fun _ => gp_run rfl rfl rfl (st_fieldFS rfl fi26_2 rfl rfl rfl)) ?_ | refine d_pureA [116, 106] rfl rfl (fun _ => gp_run rfl rfl rfl (st_fieldFS rfl fi26_2 rfl rfl rfl)) ?_ | refine d_pure [116, 106] [] rfl rfl (fun _ => gp_run rfl rfl rfl (st_fieldR rfl fi26_2 rfl rfl rfl)) ?_ | refine d_pureA [116, 106] rfl rfl (fun _ => gp_run rfl rfl rfl (st_fieldR rfl fi26_2 rfl rfl rfl)) ?_
                first | refine d_pure [117, 106] [] rfl rfl (fun _ => gp_run rfl rfl rfl (st_loadD1 rfl rfl on3 rfl)) ?_ | refine d_pureA [117, 106] rfl rfl (fun _ => gp_run rfl rfl rfl (st_loadD1 rfl rfl on3 rfl)) ?_ | refine d_pure [117, 106] [] rfl rfl (fun _ => gp_run rfl rfl rfl (st_loadP rfl rfl rfl on3 rfl)) ?_ | refine d_pureA [117, 106] rfl rfl (fun _ => gp_run rfl rfl rfl (st_loadP rfl rfl rfl on3 rfl)) ?_ | refine d_pure [117, 106] [] rfl rfl (fun _ => gp_run rfl rfl rfl (st_loadR rfl rfl (rfl) rfl on3 rfl)) ?_ | refine d_pureA [117, 106] rfl rfl (fun _ => gp_run rfl rfl rfl (st_loadR rfl rfl (rfl) rfl on3 rfl)) ?_
                refine dwc 26 rfl rfl rfl ?_
                refine dw1 27 rfl rfl ?_
                refine o_run rfl rfl rfl ?_
                first | refine Pstep.go (st_eql rfl rfl rfl) ?_ | refine Pstep.go (st_eqlSL rfl rfl rfl) ?_ | refine Pstep.go (st_eqlS rfl rfl rfl) ?_ | refine Pstep.go (st_eqlB Try.underlying3 rfl rfl rfl) ?_ | refine Pstep.go (st_eqlP Try.underlying3 rfl rfl rfl) ?_ | refine Pstep.go (st_eqlN Try.underlying3 rfl rfl) ?_ | refine Pstep.go (st_eqlF Try.underlying3 rfl rfl rfl) ?_ | refine Pstep.go (st_eqlFN Try.underlying3 rfl rfl) ?_
                refine o_nil ⟨rfl, ?_⟩
                refine dw1 28 rfl rfl ?_
                refine Pstep.go (st_pickF rfl rfl rfl rfl) ?_
                refine o_nil ⟨rfl, ?_⟩
                refine dwe ?_
                first | refine a_if rfl (fun h120 => ?_) (fun h120 => ?_) | refine a_cond rfl (fun h120 => ?_) (fun h120 => ?_)
                · refine a_seq ?_
                  refine a_region ?_
                  refine Pstep.go (st_assign rfl rfl) ?_
                  refine o_nil ?_
                  refine a_ret ?_
                  exact ⟨_, [], [], res_of rfl, rfl, rfl, retI (prbE_i hsz hr0 (hE.2 7 (by unfold iErr; rw [hgd, if_neg h86, if_pos (by first | (exact .inl (mem_tk hk1 hm1 h106)) | (exact .inr (mem_tk hk1 hm1 (by assumption))))]) (by decide)) (by decide)), rfl⟩
                · refine a_skip ?_
                  refine a_region ?_
                  refine Pstep.go (st_move rfl rfl) ?_
                  refine Pstep.go (st_add rfl rfl (wrapS (m + 1) (by omega)) rfl) ?_
                  refine Pstep.go (st_assign rfl rfl) ?_
                  refine o_nil ?_
                  exact ⟨m + 1, ⟨by show m + 1 ≤ _; omega, nmem_next hm2 hma (by simp_all), nmem_next hm2 hmb (by simp_all)⟩, by show k - (m + 1) < k - m; omega, lep_of hF [1] rfl (rfl) ⟨rfl, rfl, rfl, trivial⟩⟩
            · have hnot : ¬ (p.it[k].id ∈ (p.it.take k).map Itm.id ∨ p.it[k].sq ∈ (p.it.take k).map Itm.sq) := by have e : m = k := by { have h := h90; omega }; subst e; rintro (h | h); exact hma h; exact hmb h
              refine a_exit ?_
              refine a_region ?_
              refine Pstep.go (st_move rfl rfl) ?_
              refine Pstep.go (st_add rfl rfl (wrapS (k + 1) (by omega)) rfl) ?_
              refine Pstep.go (st_assign rfl rfl) ?_
              refine o_nil ?_
              exact ⟨k + 1, ⟨by show k + 1 ≤ _; omega, hE.1 (by unfold iErr; rw [hgd, if_neg h86, if_neg hnot])⟩, by show p.it.length - (k + 1) < p.it.length - k; omega, lep_of hF [1] rfl (rfl) ⟨rfl, rfl, trivial⟩⟩
        · refine a_exit ?_
          refine a_seq ?_
          refine a_seq ?_
          have hi0 : itemsE p.it = 0 := by rw [hk, List.drop_of_length_le (by have h := h76; simp only [List.length_range]; omega)]; rfl
          refine a_region ?_
          refine Pstep.go (st_assign rfl rfl) ?_
          refine o_nil ?_
          refine a_block ?_
          refine a_loopP (α := Nat) (fun k => ⟨151, [(1, (.ptr 1 0 0)), (9, (.d (intD (k : Int))))], [(1, [prbB2 67 p])]⟩) (fun k => k ≤ p.it.length ∧ afterE p.it = fst0 ((p.it.drop k).map (fErr (p.it.map Itm.id)))) (fun k => p.it.length - k) (0) (⟨Nat.zero_le _, rfl⟩) (lep_of hF [1] rfl rfl ⟨rfl, rfl, trivial⟩) ?_
          rintro k ⟨hk0, hk⟩
          refine a_seq ?_
          refine a_seq ?_
          refine a_region ?_
          refine Pstep.go (st_move rfl rfl) ?_
          first | refine Pstep.go (st_fieldP rfl fi67_1 rfl rfl rfl) ?_ | refine Pstep.go (st_fieldF1 rfl fi67_1 rfl rfl rfl) ?_ | refine Pstep.go (st_fieldFS rfl fi67_1 rfl rfl rfl) ?_ | refine Pstep.go (st_fieldR rfl fi67_1 rfl rfl rfl) ?_
          first | refine Pstep.go (st_loadD1 rfl rfl on65 rfl) ?_ | refine Pstep.go (st_loadP rfl rfl rfl on65 rfl) ?_ | refine Pstep.go (st_loadR rfl rfl (rfl) rfl on65 rfl) ?_
          first | refine Pstep.go (st_lenMap rfl Try.underlying65 rfl) ?_ | refine Pstep.go (st_lenD rfl rfl Try.underlying65 rfl) ?_ | refine Pstep.go (st_lenO rfl Try.underlying65 rfl) ?_ | refine Pstep.go (st_lenSL rfl Try.underlying65 rfl) ?_ | refine Pstep.go (st_lenS rfl Try.underlying65 rfl) ?_
          first | refine Pstep.go (st_lss rfl rfl rfl) ?_ | refine Pstep.go (st_lssS rfl rfl rfl) ?_
          refine o_nil ?_
          first | refine a_if rfl (fun h125 => ?_) (fun h125 => ?_) | refine a_cond rfl (fun h125 => ?_) (fun h125 => ?_)
          · have hk1 : k < p.it.length := lt_cast h125
            refine a_skip ?_
            refine a_seq ?_
            refine a_block ?_
            refine a_seq ?_
            have hE := fst0_cases hk1 hk
            have hgi := g3 _ (List.getElem_mem hk1)
            refine a_region ?_
            refine Pstep.go (st_assign rfl rfl) ?_
            refine o_nil ?_
            refine a_block ?_
            refine a_loopP (α := Nat) (fun j => ⟨151, [(1, (.ptr 1 0 0)), (9, (.d (intD (k : Int)))), (10, (.d (intD (j : Int))))], [(1, [prbB2 67 p])]⟩) (fun j => j ≤ p.it[k].af.length ∧ ∀ x ∈ p.it[k].af.take j, x ∈ p.it.map Itm.id) (fun j => p.it[k].af.length - j) (0) (⟨Nat.zero_le _, by simp⟩) (lep_of hF [1] rfl rfl ⟨rfl, rfl, rfl, trivial⟩) ?_
            rintro j ⟨hj0, hj⟩
            refine a_seq ?_
            refine a_seq ?_
            refine a_region ?_
            refine Pstep.go (st_move rfl rfl) ?_
            first | refine Pstep.go (st_fieldP rfl fi67_1 rfl rfl rfl) ?_ | refine Pstep.go (st_fieldF1 rfl fi67_1 rfl rfl rfl) ?_ | refine Pstep.go (st_fieldFS rfl fi67_1 rfl rfl rfl) ?_ | refine Pstep.go (st_fieldR rfl fi67_1 rfl rfl rfl) ?_
            first | refine Pstep.go (st_loadD1 rfl rfl on65 rfl) ?_ | refine Pstep.go (st_loadP rfl rfl rfl on65 rfl) ?_ | refine Pstep.go (st_loadR rfl rfl (rfl) rfl on65 rfl) ?_
            refine Pstep.go (st_move rfl rfl) ?_
            first | refine Pstep.go (st_indexD (k) rfl rfl (rfl) (getm hk1) Try.underlying65 rfl sz26 rfl) ?_ | refine Pstep.go (st_indexO (k) rfl rfl (rfl) (getm hk1) rfl Try.underlying65 sz26 rfl) ?_
            first | refine Pstep.go (st_fieldP rfl fi26_5 rfl rfl rfl) ?_ | refine Pstep.go (st_fieldF1 rfl fi26_5 rfl rfl rfl) ?_ | refine Pstep.go (st_fieldFS rfl fi26_5 rfl rfl rfl) ?_ | refine Pstep.go (st_fieldR rfl fi26_5 rfl rfl rfl) ?_
            first | refine Pstep.go (st_loadD1 rfl rfl on24 rfl) ?_ | refine Pstep.go (st_loadP rfl rfl rfl on24 rfl) ?_ | refine Pstep.go (st_loadR rfl rfl (rfl) rfl on24 rfl) ?_
            first | refine Pstep.go (st_lenMap rfl Try.underlying24 rfl) ?_ | refine Pstep.go (st_lenD rfl rfl Try.underlying24 rfl) ?_ | refine Pstep.go (st_lenO rfl Try.underlying24 rfl) ?_ | refine Pstep.go (st_lenSL rfl Try.underlying24 rfl) ?_ | refine Pstep.go (st_lenS rfl Try.underlying24 rfl) ?_
            first | refine Pstep.go (st_lss rfl rfl rfl) ?_ | refine Pstep.go (st_lssS rfl rfl rfl) ?_
            refine o_nil ?_
            first | refine a_if rfl (fun h136 => ?_) (fun h136 => ?_) | refine a_cond rfl (fun h136 => ?_) (fun h136 => ?_)
            · have hj1 : j < p.it[k].af.length := lt_cast h136
              refine a_skip ?_
              refine a_seq ?_
              refine a_block ?_
              refine a_seq ?_
              refine a_drawn [[], [], [1], [], [1, 2, 3], [1, 2, 3, 4], [1, 2, 3, 4, 5], [], [1, 2, 3, 4, 5, 6, 7], [1, 2, 3, 4, 5, 6, 7, 8], [0, 1, 2, 3, 4, 5, 6, 7, 8, 9], [0, 1, 2, 3, 4, 5, 6, 7, 8, 9, 10]] mixed rfl ?_
              refine dws ?_
              first | refine d_pure [1] [] rfl rfl (fun _ => gp_none (st_loadDS rfl rfl rw67 rfl)) ?_ | refine d_pureA [1] rfl rfl (fun _ => gp_none (st_loadDS rfl rfl rw67 rfl)) ?_ | refine d_pure [1] [] rfl rfl (fun _ => gp_none (st_loadPS rfl rfl rw67 rfl rfl rfl)) ?_ | refine d_pureA [1] rfl rfl (fun _ => gp_none (st_loadPS rfl rfl rw67 rfl rfl rfl)) ?_ | refine d_pure [1] [] rfl rfl (fun _ => gp_none (st_loadRS rfl rfl (rfl) rfl rw67 rfl)) ?_ | refine d_pureA [1] rfl rfl (fun _ => gp_none (st_loadRS rfl rfl (rfl) rfl rw67 rfl)) ?_
              first | refine d_pure [1] [] rfl rfl (fun _ => gp_none (st_fieldP rfl fi67_1 rfl rfl rfl)) ?_ | refine d_pureA [1] rfl rfl (fun _ => gp_none (st_fieldP rfl fi67_1 rfl rfl rfl)) ?_ | refine d_pure [1] [] rfl rfl (fun _ => gp_none (st_fieldF1 rfl fi67_1 rfl rfl rfl)) ?_ | refine d_pureA [1] rfl rfl (fun _ => gp_none (st_fieldF1 rfl fi67_1 rfl rfl rfl)) ?_ | refine d_pure [1] [] rfl rfl (fun _ => gp_none (st_fieldFS rfl fi67_1 rfl rfl rfl)) ?_ | refine d_pureA [1] rfl rfl (fun _ => gp_none (st_fieldFS rfl fi67_1 rfl rfl rfl)) ?_ | refine d_pure [1] [] rfl rfl (fun _ => gp_none (st_fieldR rfl fi67_1 rfl rfl rfl)) ?_ | refine d_pureA [1] rfl rfl (fun _ => gp_none (st_fieldR rfl fi67_1 rfl rfl rfl)) ?_
              first | refine d_pure [140] [] rfl rfl (fun _ => gp_none (st_loadD1 rfl rfl on65 rfl)) ?_ | refine d_pureA [140] rfl rfl (fun _ => gp_none (st_loadD1 rfl rfl on65 rfl)) ?_ | refine d_pure [140] [] rfl rfl (fun _ => gp_none (st_loadP rfl rfl rfl on65 rfl)) ?_ | refine d_pureA [140] rfl rfl (fun _ => gp_none (st_loadP rfl rfl rfl on65 rfl)) ?_ | refine d_pure [140] [] rfl rfl (fun _ => gp_none (st_loadR rfl rfl (rfl) rfl on65 rfl)) ?_ | refine d_pureA [140] rfl rfl (fun _ => gp_none (st_loadR rfl rfl (rfl) rfl on65 rfl)) ?_
              first | refine d_pure [9] [] rfl rfl (fun _ => gp_none (st_move rfl rfl)) ?_ | refine d_pureA [9] rfl rfl (fun _ => gp_none (st_move rfl rfl)) ?_
              first | refine d_pure [141, 142] [] rfl rfl (fun _ => gp_none (st_indexD (k) rfl rfl (rfl) (getm hk1) Try.underlying65 rfl sz26 rfl)) ?_ | refine d_pureA [141, 142] rfl rfl (fun _ => gp_none (st_indexD (k) rfl rfl (rfl) (getm hk1) Try.underlying65 rfl sz26 rfl)) ?_ | refine d_pure [141, 142] [] rfl rfl (fun _ => gp_none (st_indexO (k) rfl rfl (rfl) (getm hk1) rfl Try.underlying65 sz26 rfl)) ?_ | refine d_pureA [141, 142] rfl rfl (fun _ => gp_none (st_indexO (k) rfl rfl (rfl) (getm hk1) rfl Try.underlying65 sz26 rfl)) ?_
              first | refine d_pure [143] [] rfl rfl (fun _ => gp_none (st_fieldP rfl fi26_5 rfl rfl rfl)) ?_ | refine d_pureA [143] rfl rfl (fun _ => gp_none (st_fieldP rfl fi26_5 rfl rfl rfl)) ?_ | refine d_pure [143] [] rfl rfl (fun _ => gp_none (st_fieldF1 rfl fi26_5 rfl rfl rfl)) ?_ | refine d_pureA [143] rfl rfl (fun _ => gp_none (st_fieldF1 rfl fi26_5 rfl rfl rfl)) ?_ | refine d_pure [143] [] rfl rfl (fun _ => gp_none (st_fieldFS rfl fi26_5 rfl rfl rfl)) ?_ | refine d_pureA [143] rfl rfl (fun _ => gp_none (st_fieldFS rfl fi26_5 rfl rfl rfl)) ?_ | refine d_pure [143] [] rfl rfl (fun _ => gp_none (st_fieldR rfl fi26_5 rfl rfl rfl)) ?_ | refine d_pureA [143] rfl rfl (fun _ => gp_none (st_fieldR rfl fi26_5 rfl rfl rfl)) ?_
              first | refine d_pure [144] [] rfl rfl (fun _ => gp_none (st_loadD1 rfl rfl on24 rfl)) ?_ | refine d_pureA [144] rfl rfl (fun _ => gp_none (st_loadD1 rfl rfl on24 rfl)) ?_ | refine d_pure [144] [] rfl rfl (fun _ => gp_none (st_loadP rfl rfl rfl on24 rfl)) ?_ | refine d_pureA [144] rfl rfl (fun _ => gp_none (st_loadP rfl rfl rfl on24 rfl)) ?_ | refine d_pure [144] [] rfl rfl (fun _ => gp_none (st_loadR rfl rfl (rfl) rfl on24 rfl)) ?_ | refine d_pureA [144] rfl rfl (fun _ => gp_none (st_loadR rfl rfl (rfl) rfl on24 rfl)) ?_
              first | refine d_pure [10] [] rfl rfl (fun _ => gp_none (st_move rfl rfl)) ?_ | refine d_pureA [10] rfl rfl (fun _ => gp_none (st_move rfl rfl)) ?_
              first | refine d_pure [145, 146] [] rfl rfl (fun _ => gp_none (st_indexD (j) rfl rfl (rfl) (getm hj1) Try.underlying24 rfl sz3 rfl)) ?_ | refine d_pureA [145, 146] rfl rfl (fun _ => gp_none (st_indexD (j) rfl rfl (rfl) (getm hj1) Try.underlying24 rfl sz3 rfl)) ?_ | refine d_pure [145, 146] [] rfl rfl (fun _ => gp_none (st_indexO (j) rfl rfl (rfl) (getm hj1) rfl Try.underlying24 sz3 rfl)) ?_ | refine d_pureA [145, 146] rfl rfl (fun _ => gp_none (st_indexO (j) rfl rfl (rfl) (getm hj1) rfl Try.underlying24 sz3 rfl)) ?_
              first | refine d_pure [147] [] rfl rfl (fun _ => gp_none (st_loadD1 rfl rfl on3 rfl)) ?_ | refine d_pureA [147] rfl rfl (fun _ => gp_none (st_loadD1 rfl rfl on3 rfl)) ?_ | refine d_pure [147] [] rfl rfl (fun _ => gp_none (st_loadP rfl rfl rfl on3 rfl)) ?_ | refine d_pureA [147] rfl rfl (fun _ => gp_none (st_loadP rfl rfl rfl on3 rfl)) ?_ | refine d_pure [147] [] rfl rfl (fun _ => gp_none (st_loadR rfl rfl (rfl) rfl on3 rfl)) ?_ | refine d_pureA [147] rfl rfl (fun _ => gp_none (st_loadR rfl rfl (rfl) rfl on3 rfl)) ?_
              refine dwc 10 rfl rfl rfl ?_
              refine dw1 11 rfl rfl ?_
              refine Pstep.go (st_callP (find_p p p.it[k].af[j] (by omega)) rfl rfl) ?_
              refine o_nil ⟨rfl, ?_⟩
              refine dw1 12 rfl rfl ?_
              first | refine Pstep.go (st_lss rfl rfl rfl) ?_ | refine Pstep.go (st_lssS rfl rfl rfl) ?_
              refine o_nil ⟨rfl, ?_⟩
              refine dwe ?_
              first | refine a_if rfl (fun h150 => ?_) (fun h150 => ?_) | refine a_cond rfl (fun h150 => ?_) (fun h150 => ?_)
              · refine a_seq ?_
                refine a_region ?_
                refine Pstep.go (st_assign rfl rfl) ?_
                refine o_nil ?_
                refine a_ret ?_
                exact ⟨_, [], [], res_of rfl, rfl, rfl, retI (prbE_a hsz hr0 hi0 (hE.2 9 (by unfold fErr; rw [if_pos (List.any_eq_true.2 ⟨_, List.getElem_mem hj1, by unfold notIn; rw [decide_eq_false (ixI_neg h150)]; rfl⟩)]) (by decide))), rfl⟩
              · refine a_skip ?_
                refine a_region ?_
                refine Pstep.go (st_move rfl rfl) ?_
                refine Pstep.go (st_add rfl rfl (wrapS (j + 1) (by omega)) rfl) ?_
                refine Pstep.go (st_assign rfl rfl) ?_
                refine o_nil ?_
                exact ⟨j + 1, ⟨by show j + 1 ≤ _; omega, by rw [List.take_succ_eq_append_getElem hj1]; intro x hx; rcases List.mem_append.1 hx with hx | hx; exact hj x hx; rw [List.mem_singleton.1 hx]; exact ixI_nn (by simpa using h150)⟩, by show p.it[k].af.length - (j + 1) < p.it[k].af.length - j; omega, lep_of hF [1] rfl (rfl) ⟨rfl, rfl, rfl, trivial⟩⟩
            · have hall : ¬ p.it[k].af.any (notIn (p.it.map Itm.id)) = true := by rw [List.any_eq_true]; rintro ⟨x, hx, hn⟩; have hx' := hj x (by rw [List.take_of_length_le (by have h := h136; omega)]; exact hx); simp [notIn, hx'] at hn
              refine a_exit ?_
              refine a_region ?_
              refine Pstep.go (st_move rfl rfl) ?_
              refine Pstep.go (st_add rfl rfl (wrapS (k + 1) (by omega)) rfl) ?_
              refine Pstep.go (st_assign rfl rfl) ?_
              refine o_nil ?_
              exact ⟨k + 1, ⟨by show k + 1 ≤ _; omega, hE.1 (by unfold fErr; rw [if_neg hall])⟩, by show p.it.length - (k + 1) < p.it.length - k; omega, lep_of hF [1] rfl (rfl) ⟨rfl, rfl, trivial⟩⟩
          · refine a_exit ?_
            refine a_seq ?_
            refine a_region ?_
            refine Pstep.go (st_assign rfl rfl) ?_
            refine o_nil ?_
            refine a_ret ?_
            exact ⟨_, [], [], res_of rfl, rfl, rfl, retI (prbE_a hsz hr0 hi0 (by rw [hk, fst0_end (by have h := h125; omega)])), rfl⟩
end Go.Proofs.Ytfmpiabmnjmobaa
