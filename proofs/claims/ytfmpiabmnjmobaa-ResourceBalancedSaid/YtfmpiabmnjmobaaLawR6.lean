/- Layer 28: the law of balanced deltas. -/
import Derived.Test.YtfmpiabmnjmobaaLawR5
namespace Go.Proofs.Ytfmpiabmnjmobaa
open Go.RowKit

def opp (x y : Rsc × Int) : Bool := decide (y.1.k = 1) && decide (y.1.f = x.1.t) && decide (y.1.t = x.1.f) && decide (y.2 = 0 - x.2)
theorem any_snoc {α : Type} {p : α → Bool} {l : List α} {k : Nat} (hk : k < l.length) : (l.take (k + 1)).any p = ((l.take k).any p || p l[k]) := by
  rw [List.take_succ_eq_append_getElem hk, List.any_append]; simp
theorem bs_b {L : List (Rsc × Int)} (hl : L.length ≤ 5000) (h : ∀ x ∈ L, -Mx ≤ x.2 ∧ x.2 ≤ Mx) (a : List UInt8) (k : Nat) : -5000000000000000000 ≤ ((L.take k).map (bs a)).sum ∧ ((L.take k).map (bs a)).sum ≤ 5000000000000000000 := by
  have h := sum_bound (l := L.take k) (f := bs a) (B := Mx) (fun x hx => by
    have := h x (List.mem_of_mem_take hx)
    simp only [Mx] at this ⊢
    unfold bs; split <;> omega) 5000 (by rw [List.length_take]; omega) (by decide)
  simp only [Mx] at h; omega
set_option maxRecDepth 100000 in
set_option maxHeartbeats 8000000 in
theorem lawR6_p (i : Itm) : PCalls Try.prog 4 [.d (itmD i)] (.raw (.bool true)) := by
  have hk := known_p
  refine a_enter Try.func4 rfl rfl Try.ntmps4 rfl rfl rfl fun F hF => ?_
  refine a_seq ?_
  refine a_region ?_
  refine Estep.go (st_box 1 rfl rfl rfl rfl rfl rfl rfl) ?_
  refine Pstep.go (st_assign rfl rfl) ?_
  refine o_nil ?_
  refine a_seq ?_
  refine a_seq ?_
  refine a_region ?_
  refine Pstep.go (st_callP (hk) rfl rfl) ?_
  refine Pstep.go (st_not rfl rfl) ?_
  refine Pstep.go (st_move rfl rfl) ?_
  refine o_setF 11 rfl (rfl) ?_
  refine o_run rfl rfl rfl ?_
  refine Pstep.go (st_fieldP rfl fi26_3 rfl rfl rfl) ?_
  refine o_run rfl rfl rfl ?_
  refine Pstep.go (st_loadP rfl rfl rfl on22 rfl) ?_
  refine o_run rfl rfl rfl ?_
  refine Pstep.go (st_lenMap rfl Try.underlying22 rfl) ?_
  refine o_run rfl rfl rfl ?_
  refine Pstep.go (st_gtr rfl rfl rfl) ?_
  refine Pstep.go (st_pickF rfl rfl rfl rfl) ?_
  refine Pstep.go (st_move rfl rfl) ?_
  refine o_splitP 17 rfl (fun h17 => ?_) (fun h17 => ?_)
  · refine o_pass rfl rfl rfl rfl ?_
    refine o_pass rfl rfl rfl rfl ?_
    refine o_pass rfl rfl rfl rfl ?_
    refine o_pass rfl rfl rfl rfl ?_
    refine Pstep.go (st_pickT rfl rfl rfl rfl) ?_
    refine Pstep.go (st_move rfl rfl) ?_
    refine o_pass rfl rfl rfl rfl ?_
    refine o_pass rfl rfl rfl rfl ?_
    refine o_pass rfl rfl rfl rfl ?_
    refine o_pass rfl rfl rfl rfl ?_
    refine Pstep.go (st_pickT rfl rfl rfl rfl) ?_
    refine o_nil ?_
    refine a_true rfl rfl ?_
    refine a_seq ?_
    refine a_region ?_
    refine Pstep.go (st_callP (hk) rfl rfl) ?_
    refine Pstep.go (st_assign rfl rfl) ?_
    refine o_nil ?_
    refine a_ret ?_
    exact ⟨_, [], [], res_of rfl, rfl, rfl, rfl, rfl⟩
  · refine o_run rfl rfl rfl ?_
    refine Pstep.go (st_fieldP rfl fi26_4 rfl rfl rfl) ?_
    refine o_run rfl rfl rfl ?_
    refine Pstep.go (st_loadP rfl rfl rfl on23 rfl) ?_
    refine o_run rfl rfl rfl ?_
    refine Pstep.go (st_lenMap rfl Try.underlying23 rfl) ?_
    refine o_run rfl rfl rfl ?_
    refine Pstep.go (st_gtr rfl rfl rfl) ?_
    refine Pstep.go (st_pickF rfl rfl rfl rfl) ?_
    refine Pstep.go (st_move rfl rfl) ?_
    refine o_splitP 23 rfl (fun h23 => ?_) (fun h23 => ?_)
    · refine o_pass rfl rfl rfl rfl ?_
      refine o_pass rfl rfl rfl rfl ?_
      refine o_pass rfl rfl rfl rfl ?_
      refine o_pass rfl rfl rfl rfl ?_
      refine Pstep.go (st_pickT rfl rfl rfl rfl) ?_
      refine o_nil ?_
      refine a_true rfl rfl ?_
      refine a_seq ?_
      refine a_region ?_
      refine Pstep.go (st_callP (hk) rfl rfl) ?_
      refine Pstep.go (st_assign rfl rfl) ?_
      refine o_nil ?_
      refine a_ret ?_
      exact ⟨_, [], [], res_of rfl, rfl, rfl, rfl, rfl⟩
    · refine o_run rfl rfl rfl ?_
      refine Pstep.go (st_fieldP rfl fi26_5 rfl rfl rfl) ?_
      refine o_run rfl rfl rfl ?_
      refine Pstep.go (st_loadP rfl rfl rfl on24 rfl) ?_
      refine o_run rfl rfl rfl ?_
      refine Pstep.go (st_lenMap rfl Try.underlying24 rfl) ?_
      refine o_run rfl rfl rfl ?_
      refine Pstep.go (st_gtr rfl rfl rfl) ?_
      refine Pstep.go (st_pickF rfl rfl rfl rfl) ?_
      refine o_nil ?_
      refine a_if rfl (fun h28 => ?_) (fun h28 => ?_)
      · refine a_seq ?_
        refine a_region ?_
        refine Pstep.go (st_callP (hk) rfl rfl) ?_
        refine Pstep.go (st_assign rfl rfl) ?_
        refine o_nil ?_
        refine a_ret ?_
        exact ⟨_, [], [], res_of rfl, rfl, rfl, rfl, rfl⟩
      · refine a_skip ?_
        refine a_seq ?_
        refine a_region ?_
        refine Pstep.go (st_loadPS rfl rfl rw26 rfl rfl rfl) ?_
        refine Pstep.go (st_callP (ownitem_p i (by omega) (by omega) (by omega)) rfl rfl) ?_
        refine Pstep.go (st_callP (deltas_p i (by omega) (by omega) (by omega)) rfl rfl) ?_
        refine Pstep.go (st_move rfl rfl) ?_
        refine Pstep.go (st_extractD rfl rfl rfl) ?_
        refine Pstep.go (st_extractD rfl rfl rfl) ?_
        refine Pstep.go (st_assign rfl rfl) ?_
        refine Pstep.go (st_assign rfl rfl) ?_
        refine o_nil ?_
        refine a_seq ?_
        refine a_seq ?_
        refine a_region ?_
        refine Pstep.go (st_move rfl rfl) ?_
        refine Pstep.go (st_neq rfl rfl rfl) ?_
        refine o_nil ?_
        refine a_if rfl (fun h37 => ?_) (fun h37 => ?_)
        · refine a_seq ?_
          refine a_region ?_
          refine Pstep.go (st_move rfl rfl) ?_
          refine Pstep.go (st_lenMap rfl Try.underlying37 rfl) ?_
          refine Pstep.go (st_eql rfl rfl rfl) ?_
          refine Pstep.go (st_assign rfl rfl) ?_
          refine o_nil ?_
          refine a_ret ?_
          exact ⟨_, [], [], res_of rfl, rfl, rfl, retB' (by rw [show dltS i = [] from if_neg h37]; rfl), rfl⟩
        · refine a_skip ?_
          refine a_seq ?_
          refine a_seq ?_
          have hE : checkE i = 0 := by simpa using h37
          obtain ⟨L, hL⟩ : ∃ L, dltS i = L := ⟨_, rfl⟩
          rw [hL]
          have hLL : L = dltL i := by rw [← hL]; exact if_pos hE
          have hl5 : L.length ≤ 5000 := by rw [hLL]; exact dltL_len i (by omega) (by omega)
          obtain ⟨_, _, _, _, hz1, hz2, _, hz4, hz5⟩ := check_ok hE
          have hbd : ∀ x ∈ L, -Mx ≤ x.2 ∧ x.2 ≤ Mx := fun x hx => by rw [hLL] at hx; exact bndE_in hz5 hx
          have hnz : ∀ x ∈ L, x.2 ≠ 0 := fun x hx => by rw [hLL] at hx; exact (dltL_mem hx).2.2
          have hsum : ∀ x ∈ L, x.1.k = 0 → (L.map (bs x.1.acc.a)).sum = 0 := fun x hx h => by rw [hLL] at hx ⊢; exact dlt_sum0 hz4 hx h
          have hopp : ∀ x ∈ L, x.1.k = 1 → L.any (opp x) = true := fun x hx h => by rw [hLL] at hx ⊢; exact List.any_eq_true.2 ⟨_, dlt_opp hz1 hz2 hx h, by simp [opp]⟩
          clear hLL hL hz1 hz2 hz4 hz5 hE
          refine a_region ?_
          refine Pstep.go (st_assign rfl rfl) ?_
          refine o_nil ?_
          refine a_block ?_
          refine a_loopP (α := Nat) (fun k => ⟨170, [(3, (.d (.sl none (L.map dltD)))), (5, (.d (intD (k : Int))))], []⟩) (fun k => k ≤ L.length) (fun k => L.length - k) (0) (Nat.zero_le _) (lep_of hF [] rfl rfl ⟨rfl, rfl, trivial⟩) ?_
          rintro k hk0
          refine a_seq ?_
          refine a_seq ?_
          refine a_region ?_
          refine Pstep.go (st_move rfl rfl) ?_
          refine Pstep.go (st_move rfl rfl) ?_
          refine Pstep.go (st_lenMap rfl Try.underlying37 rfl) ?_
          refine Pstep.go (st_lss rfl rfl rfl) ?_
          refine o_nil ?_
          refine a_if rfl (fun h44 => ?_) (fun h44 => ?_)
          · have hk1 : k < L.length := lt_cast h44
            refine a_skip ?_
            refine a_seq ?_
            refine a_block ?_
            refine a_seq ?_
            refine a_region ?_
            refine Pstep.go (st_assign rfl rfl) ?_
            refine o_nil ?_
            refine a_seq ?_
            refine a_region ?_
            refine Pstep.go (st_assign rfl rfl) ?_
            refine o_nil ?_
            refine a_seq ?_
            refine a_seq ?_
            refine a_region ?_
            refine Pstep.go (st_assign rfl rfl) ?_
            refine o_nil ?_
            refine a_block ?_
            refine a_loopP (α := Nat × Int × Bool) (fun q => ⟨170, [(3, (.d (.sl none (L.map dltD)))), (5, (.d (intD (k : Int)))), (6, (.d (intD q.2.1))), (7, (.d (.raw (.bool q.2.2)))), (8, (.d (intD (q.1 : Int))))], []⟩) (fun q => q.1 ≤ L.length ∧ q.2.1 = ((L.take q.1).map (bs L[k].1.acc.a)).sum ∧ q.2.2 = (L.take q.1).any (opp L[k])) (fun q => L.length - q.1) ((0, 0, false)) (⟨Nat.zero_le _, rfl, rfl⟩) (lep_of hF [] rfl rfl ⟨rfl, rfl, rfl, rfl, rfl, trivial⟩) ?_
            rintro ⟨m, n, b⟩ ⟨hm0, hn, hb⟩
            dsimp only at hm0 hn hb ⊢
            have hnb := bs_b hl5 hbd L[k].1.acc.a m
            refine a_seq ?_
            refine a_seq ?_
            refine a_region ?_
            refine Pstep.go (st_move rfl rfl) ?_
            refine Pstep.go (st_move rfl rfl) ?_
            refine Pstep.go (st_lenMap rfl Try.underlying37 rfl) ?_
            refine Pstep.go (st_lss rfl rfl rfl) ?_
            refine o_nil ?_
            refine a_if rfl (fun h50 => ?_) (fun h50 => ?_)
            · have hm1 : m < L.length := lt_cast h50
              refine a_skip ?_
              refine a_seq ?_
              refine a_block ?_
              refine a_seq ?_
              refine a_seq ?_
              refine a_drawn [[], [], [0, 1], [0, 1, 2], [0, 1, 2, 3], [0, 1, 2, 3, 4], [0, 1, 2, 3, 4, 5], [0, 1, 2, 3, 4, 5, 6], [0, 1, 2, 3, 4, 5, 6, 7], [0, 1, 2, 3, 4, 5, 6, 7], [0, 1, 2, 3, 4, 5, 6, 7, 8, 9], [0, 1, 2, 3, 4, 5, 6, 7, 8, 9, 10], [0, 1, 2, 3, 4, 5, 6, 7, 8, 9, 10, 11], [0, 1, 2, 3, 4, 5, 6, 7, 8, 9, 10, 11, 12], [0, 1, 2, 3, 4, 5, 6, 7, 8, 9, 10, 11, 12, 13], [0, 1, 2, 3, 4, 5, 6, 7], [0, 1, 2, 3, 4, 5, 6, 7], [0, 1, 2, 3, 4, 5, 6, 7, 15, 16], [0, 1, 2, 3, 4, 5, 6, 7, 15, 16, 17], [0, 1, 2, 3, 4, 5, 6, 7, 15, 16, 17, 18], [0, 1, 2, 3, 4, 5, 6, 7, 15, 16, 17, 18, 19], [0, 1, 2, 3, 4, 5, 6, 7, 15, 16, 17, 18, 19, 20], [0, 1, 2, 3, 4, 5, 6, 7, 8, 9, 10, 11, 12, 13, 14, 15, 16, 17, 18, 19, 20, 21], [0, 1, 2, 3, 4, 5, 6, 7, 8, 9, 10, 11, 12, 13, 14, 15, 16, 17, 18, 19, 20, 21, 22]] mixed rfl ?_
              refine dws ?_
              refine d_pure [3] [] rfl rfl (fun _ => gp_none (st_move rfl rfl)) ?_
              refine d_pure [8] [] rfl rfl (fun _ => gp_none (st_move rfl rfl)) ?_
              refine dwc 2 rfl rfl rfl ?_
              refine dw1 3 rfl rfl ?_
              refine Pstep.go (st_indexD (m) rfl rfl (rfl) (getm hm1) Try.underlying37 rfl sz45 rfl) ?_
              refine o_nil ⟨rfl, ?_⟩
              refine dw1 4 rfl rfl ?_
              refine Pstep.go (st_fieldFS rfl fi45_0 rfl rfl rfl) ?_
              refine o_nil ⟨rfl, ?_⟩
              refine dw1 5 rfl rfl ?_
              refine Pstep.go (st_fieldF1 rfl fi43_0 rfl rfl rfl) ?_
              refine o_nil ⟨rfl, ?_⟩
              refine dw1 6 rfl rfl ?_
              refine Pstep.go (st_loadD1 rfl rfl on3 rfl) ?_
              refine o_nil ⟨rfl, ?_⟩
              refine dw1 7 rfl rfl ?_
              refine Pstep.go (st_eql rfl rfl rfl) ?_
              refine o_nil ⟨rfl, ?_⟩
              refine dw1 8 rfl rfl ?_
              refine Pstep.go (st_move rfl rfl) ?_
              refine o_splitP 60 rfl (fun h60 => ?_) (fun h60 => ?_)
              · refine o_nil ⟨rfl, ?_⟩
                refine dws ?_
                refine d_pure [3, 60] [] rfl rfl (fun _ => gp_run rfl rfl rfl (st_move rfl rfl)) ?_
                refine d_pure [8, 60] [] rfl rfl (fun _ => gp_run rfl rfl rfl (st_move rfl rfl)) ?_
                refine d_pure [61, 62, 60] [] rfl rfl (fun _ => gp_run rfl rfl rfl (st_indexD (m) rfl rfl (rfl) (getm hm1) Try.underlying37 rfl sz45 rfl)) ?_
                refine d_pure [63, 60] [] rfl rfl (fun _ => gp_run rfl rfl rfl (st_fieldFS rfl fi45_0 rfl rfl rfl)) ?_
                refine d_pure [64, 60] [] rfl rfl (fun _ => gp_run rfl rfl rfl (st_fieldFS rfl fi43_1 rfl rfl rfl)) ?_
                refine d_pure [65, 60] [] rfl rfl (fun _ => gp_run rfl rfl rfl (st_fieldF1 rfl fi41_2 rfl rfl rfl)) ?_
                refine d_pure [66, 60] [] rfl rfl (fun _ => gp_run rfl rfl rfl (st_loadD1 rfl rfl on9 rfl)) ?_
                refine d_pure [3, 60] [] rfl rfl (fun _ => gp_run rfl rfl rfl (st_move rfl rfl)) ?_
                refine d_pure [5, 60] [] rfl rfl (fun _ => gp_run rfl rfl rfl (st_move rfl rfl)) ?_
                refine d_pure [68, 69, 60] [] rfl rfl (fun _ => gp_run rfl rfl rfl (st_indexD (k) rfl rfl (rfl) (getm hk1) Try.underlying37 rfl sz45 rfl)) ?_
                refine d_pure [70, 60] [] rfl rfl (fun _ => gp_run rfl rfl rfl (st_fieldFS rfl fi45_0 rfl rfl rfl)) ?_
                refine d_pure [71, 60] [] rfl rfl (fun _ => gp_run rfl rfl rfl (st_fieldFS rfl fi43_1 rfl rfl rfl)) ?_
                refine d_pure [72, 60] [] rfl rfl (fun _ => gp_run rfl rfl rfl (st_fieldF1 rfl fi41_2 rfl rfl rfl)) ?_
                refine d_pure [73, 60] [] rfl rfl (fun _ => gp_run rfl rfl rfl (st_loadD1 rfl rfl on9 rfl)) ?_
                refine dwc 22 rfl rfl rfl ?_
                refine dw1 23 rfl rfl ?_
                refine o_run rfl rfl rfl ?_
                refine Pstep.go (st_eqlSL rfl rfl rfl) ?_
                refine o_nil ⟨rfl, ?_⟩
                refine dw1 24 rfl rfl ?_
                refine Pstep.go (st_pickT rfl rfl rfl rfl) ?_
                refine o_nil ⟨rfl, ?_⟩
                refine dwe ?_
                refine a_if rfl (fun h76 => ?_) (fun h76 => ?_)
                · refine a_region ?_
                  refine Pstep.go (st_move rfl rfl) ?_
                  refine Pstep.go (st_move rfl rfl) ?_
                  refine Pstep.go (st_move rfl rfl) ?_
                  refine Pstep.go (st_indexD (m) rfl rfl (rfl) (getm hm1) Try.underlying37 rfl sz45 rfl) ?_
                  refine Pstep.go (st_fieldF1 rfl fi45_1 rfl rfl rfl) ?_
                  refine Pstep.go (st_loadD1 rfl rfl on2 rfl) ?_
                  have hdm := hbd _ (List.getElem_mem hm1)
                  simp only [Mx] at hdm
                  refine Pstep.go (st_add rfl rfl (IntWalk.i64_in _ (by omega)) rfl) ?_
                  refine Pstep.go (st_assign rfl rfl) ?_
                  refine o_nil ?_
                  refine a_drawn [[], [0], [0, 1], [0, 1], [0, 1, 2, 3], [0, 1, 2, 3, 4], [0, 1, 2, 3, 4, 5], [0, 1, 2, 3, 4, 5, 6], [0, 1, 2, 3, 4, 5, 6, 7], [0, 1, 2, 3, 4, 5, 6, 7, 8], [0, 1, 2, 3, 4, 5, 6, 7, 8, 9], [0, 1, 2, 3, 4, 5, 6, 7, 8, 9], [0, 1, 2, 3, 4, 5, 6, 7, 8, 9, 10, 11], [0, 1, 2, 3, 4, 5, 6, 7, 8, 9, 10, 11, 12], [0, 1, 2, 3, 4, 5, 6, 7, 8, 9, 10, 11, 12, 13], [0, 1, 2, 3, 4, 5, 6, 7, 8, 9, 10, 11, 12, 13, 14], [0, 1, 2, 3, 4, 5, 6, 7, 8, 9], [0, 1, 2, 3, 4, 5, 6, 7, 8, 9], [0, 1, 2, 3, 4, 5, 6, 7, 8, 9, 16, 17], [0, 1, 2, 3, 4, 5, 6, 7, 8, 9, 16, 17, 18], [0, 1, 2, 3, 4, 5, 6, 7, 8, 9, 16, 17, 18, 19], [0, 1, 2, 3, 4, 5, 6, 7, 8, 9, 16, 17, 18, 19, 20], [0, 1, 2, 3, 4, 5, 6, 7, 8, 9, 10, 11, 12, 13, 14, 15, 16, 17, 18, 19, 20, 21], [0, 1, 2, 3, 4, 5, 6, 7, 8, 9, 10, 11, 12, 13, 14, 15, 16, 17, 18, 19, 20, 21, 22], [0, 1, 2, 3, 4, 5, 6, 7, 8, 9, 10, 11, 12, 13, 14, 15, 16, 17, 18, 19, 20, 21, 22, 23], [0, 1, 2, 3, 4, 5, 6, 7, 8, 9, 10, 11, 12, 13, 14, 15, 16, 17, 18, 19, 20, 21, 22, 23, 24], [0, 1, 2, 3, 4, 5, 6, 7, 8, 9, 10, 11, 12, 13, 14, 15, 16, 17, 18, 19, 20, 21, 22, 23, 24], [0, 1, 2, 3, 4, 5, 6, 7, 8, 9, 10, 11, 12, 13, 14, 15, 16, 17, 18, 19, 20, 21, 22, 23, 24, 25, 26], [0, 1, 2, 3, 4, 5, 6, 7, 8, 9, 10, 11, 12, 13, 14, 15, 16, 17, 18, 19, 20, 21, 22, 23, 24, 25, 26, 27], [0, 1, 2, 3, 4, 5, 6, 7, 8, 9, 10, 11, 12, 13, 14, 15, 16, 17, 18, 19, 20, 21, 22, 23, 24, 25, 26, 27, 28], [0, 1, 2, 3, 4, 5, 6, 7, 8, 9, 10, 11, 12, 13, 14, 15, 16, 17, 18, 19, 20, 21, 22, 23, 24, 25, 26, 27, 28, 29], [0, 1, 2, 3, 4, 5, 6, 7, 8, 9, 10, 11, 12, 13, 14, 15, 16, 17, 18, 19, 20, 21, 22, 23, 24], [0, 1, 2, 3, 4, 5, 6, 7, 8, 9, 10, 11, 12, 13, 14, 15, 16, 17, 18, 19, 20, 21, 22, 23, 24], [0, 1, 2, 3, 4, 5, 6, 7, 8, 9, 10, 11, 12, 13, 14, 15, 16, 17, 18, 19, 20, 21, 22, 23, 24, 31, 32], [0, 1, 2, 3, 4, 5, 6, 7, 8, 9, 10, 11, 12, 13, 14, 15, 16, 17, 18, 19, 20, 21, 22, 23, 24, 31, 32, 33], [0, 1, 2, 3, 4, 5, 6, 7, 8, 9, 10, 11, 12, 13, 14, 15, 16, 17, 18, 19, 20, 21, 22, 23, 24, 31, 32, 33, 34], [0, 1, 2, 3, 4, 5, 6, 7, 8, 9, 10, 11, 12, 13, 14, 15, 16, 17, 18, 19, 20, 21, 22, 23, 24, 31, 32, 33, 34, 35], [0, 1, 2, 3, 4, 5, 6, 7, 8, 9, 10, 11, 12, 13, 14, 15, 16, 17, 18, 19, 20, 21, 22, 23, 24, 25, 26, 27, 28, 29, 30, 31, 32, 33, 34, 35, 36], [0, 1, 2, 3, 4, 5, 6, 7, 8, 9, 10, 11, 12, 13, 14, 15, 16, 17, 18, 19, 20, 21, 22, 23, 24, 25, 26, 27, 28, 29, 30, 31, 32, 33, 34, 35, 36, 37], [0, 1, 2, 3, 4, 5, 6, 7, 8, 9, 10, 11, 12, 13, 14, 15, 16, 17, 18, 19, 20, 21, 22, 23, 24, 25, 26, 27, 28, 29, 30, 31, 32, 33, 34, 35, 36, 37, 38], [0, 1, 2, 3, 4, 5, 6, 7, 8, 9, 10, 11, 12, 13, 14, 15, 16, 17, 18, 19, 20, 21, 22, 23, 24, 25, 26, 27, 28, 29, 30, 31, 32, 33, 34, 35, 36, 37, 38, 39], [0, 1, 2, 3, 4, 5, 6, 7, 8, 9, 10, 11, 12, 13, 14, 15, 16, 17, 18, 19, 20, 21, 22, 23, 24, 25, 26, 27, 28, 29, 30, 31, 32, 33, 34, 35, 36, 37, 38, 39], [0, 1, 2, 3, 4, 5, 6, 7, 8, 9, 10, 11, 12, 13, 14, 15, 16, 17, 18, 19, 20, 21, 22, 23, 24, 25, 26, 27, 28, 29, 30, 31, 32, 33, 34, 35, 36, 37, 38, 39, 40, 41], [0, 1, 2, 3, 4, 5, 6, 7, 8, 9, 10, 11, 12, 13, 14, 15, 16, 17, 18, 19, 20, 21, 22, 23, 24, 25, 26, 27, 28, 29, 30, 31, 32, 33, 34, 35, 36, 37, 38, 39, 40, 41, 42], [0, 1, 2, 3, 4, 5, 6, 7, 8, 9, 10, 11, 12, 13, 14, 15, 16, 17, 18, 19, 20, 21, 22, 23, 24, 25, 26, 27, 28, 29, 30, 31, 32, 33, 34, 35, 36, 37, 38, 39, 40, 41, 42, 43], [0, 1, 2, 3, 4, 5, 6, 7, 8, 9, 10, 11, 12, 13, 14, 15, 16, 17, 18, 19, 20, 21, 22, 23, 24, 25, 26, 27, 28, 29, 30, 31, 32, 33, 34, 35, 36, 37, 38, 39], [0, 1, 2, 3, 4, 5, 6, 7, 8, 9, 10, 11, 12, 13, 14, 15, 16, 17, 18, 19, 20, 21, 22, 23, 24, 25, 26, 27, 28, 29, 30, 31, 32, 33, 34, 35, 36, 37, 38, 39], [0, 1, 2, 3, 4, 5, 6, 7, 8, 9, 10, 11, 12, 13, 14, 15, 16, 17, 18, 19, 20, 21, 22, 23, 24, 25, 26, 27, 28, 29, 30, 31, 32, 33, 34, 35, 36, 37, 38, 39, 45, 46], [0, 1, 2, 3, 4, 5, 6, 7, 8, 9, 10, 11, 12, 13, 14, 15, 16, 17, 18, 19, 20, 21, 22, 23, 24, 25, 26, 27, 28, 29, 30, 31, 32, 33, 34, 35, 36, 37, 38, 39, 45, 46, 47], [0, 1, 2, 3, 4, 5, 6, 7, 8, 9, 10, 11, 12, 13, 14, 15, 16, 17, 18, 19, 20, 21, 22, 23, 24, 25, 26, 27, 28, 29, 30, 31, 32, 33, 34, 35, 36, 37, 38, 39, 45, 46, 47, 48], [0, 1, 2, 3, 4, 5, 6, 7, 8, 9, 10, 11, 12, 13, 14, 15, 16, 17, 18, 19, 20, 21, 22, 23, 24, 25, 26, 27, 28, 29, 30, 31, 32, 33, 34, 35, 36, 37, 38, 39, 45, 46, 47, 48, 49], [0, 1, 2, 3, 4, 5, 6, 7, 8, 9, 10, 11, 12, 13, 14, 15, 16, 17, 18, 19, 20, 21, 22, 23, 24, 25, 26, 27, 28, 29, 30, 31, 32, 33, 34, 35, 36, 37, 38, 39, 40, 41, 42, 43, 44, 45, 46, 47, 48, 49, 50], [0, 1, 2, 3, 4, 5, 6, 7, 8, 9, 10, 11, 12, 13, 14, 15, 16, 17, 18, 19, 20, 21, 22, 23, 24, 25, 26, 27, 28, 29, 30, 31, 32, 33, 34, 35, 36, 37, 38, 39, 40, 41, 42, 43, 44, 45, 46, 47, 48, 49, 50, 51], [0, 1, 2, 3, 4, 5, 6, 7, 8, 9, 10, 11, 12, 13, 14, 15, 16, 17, 18, 19, 20, 21, 22, 23, 24, 25, 26, 27, 28, 29, 30, 31, 32, 33, 34, 35, 36, 37, 38, 39, 40, 41, 42, 43, 44, 45, 46, 47, 48, 49, 50, 51, 52], [0, 1, 2, 3, 4, 5, 6, 7, 8, 9, 10, 11, 12, 13, 14, 15, 16, 17, 18, 19, 20, 21, 22, 23, 24, 25, 26, 27, 28, 29, 30, 31, 32, 33, 34, 35, 36, 37, 38, 39, 40, 41, 42, 43, 44, 45, 46, 47, 48, 49, 50, 51, 52, 53]] mixed rfl ?_
                  refine dw1 1 rfl rfl ?_
                  refine Pstep.go (st_move rfl rfl) ?_
                  refine o_nil ⟨rfl, ?_⟩
                  refine dw1 2 rfl rfl ?_
                  refine Pstep.go (st_move rfl rfl) ?_
                  refine o_splitB 85 rfl (fun h85 => ?_) (fun h85 => ?_)
                  · refine o_nil ⟨rfl, ?_⟩
                    refine dws ?_
                    refine d_pure [3, 85] [] rfl rfl (fun _ => gp_pass rfl rfl rfl rfl) ?_
                    refine d_pure [8, 85] [] rfl rfl (fun _ => gp_pass rfl rfl rfl rfl) ?_
                    refine dwc 4 rfl rfl rfl ?_
                    refine dw1 5 rfl rfl ?_
                    refine o_pass rfl rfl rfl rfl ?_
                    refine o_nil ⟨rfl, ?_⟩
                    refine dw1 6 rfl rfl ?_
                    refine o_pass rfl rfl rfl rfl ?_
                    refine o_nil ⟨rfl, ?_⟩
                    refine dw1 7 rfl rfl ?_
                    refine o_pass rfl rfl rfl rfl ?_
                    refine o_nil ⟨rfl, ?_⟩
                    refine dw1 8 rfl rfl ?_
                    refine o_pass rfl rfl rfl rfl ?_
                    refine o_nil ⟨rfl, ?_⟩
                    refine dw1 9 rfl rfl ?_
                    refine o_pass rfl rfl rfl rfl ?_
                    refine o_nil ⟨rfl, ?_⟩
                    refine dw1 10 rfl rfl ?_
                    refine o_pass rfl rfl rfl rfl ?_
                    refine o_nil ⟨rfl, ?_⟩
                    refine dws ?_
                    refine d_pure [3, 93] [] rfl rfl (fun _ => gp_passU rfl rfl rfl) ?_
                    refine d_pure [8, 93] [] rfl rfl (fun _ => gp_passU rfl rfl rfl) ?_
                    refine d_pure [94, 95, 93] [] rfl rfl (fun _ => gp_passU rfl rfl rfl) ?_
                    refine d_pure [96, 93] [] rfl rfl (fun _ => gp_passU rfl rfl rfl) ?_
                    refine d_pure [97, 93] [] rfl rfl (fun _ => gp_passU rfl rfl rfl) ?_
                    refine d_pure [98, 93] [] rfl rfl (fun _ => gp_passU rfl rfl rfl) ?_
                    refine d_pure [3, 93] [] rfl rfl (fun _ => gp_passU rfl rfl rfl) ?_
                    refine d_pure [5, 93] [] rfl rfl (fun _ => gp_passU rfl rfl rfl) ?_
                    refine d_pure [100, 101, 93] [] rfl rfl (fun _ => gp_passU rfl rfl rfl) ?_
                    refine d_pure [102, 93] [] rfl rfl (fun _ => gp_passU rfl rfl rfl) ?_
                    refine d_pure [103, 93] [] rfl rfl (fun _ => gp_passU rfl rfl rfl) ?_
                    refine d_pure [104, 93] [] rfl rfl (fun _ => gp_passU rfl rfl rfl) ?_
                    refine dwc 22 rfl rfl rfl ?_
                    refine dw1 23 rfl rfl ?_
                    refine o_passU rfl rfl rfl ?_
                    refine o_nil ⟨rfl, ?_⟩
                    refine dw1 24 rfl rfl ?_
                    refine o_pass rfl rfl rfl rfl ?_
                    refine o_nil ⟨rfl, ?_⟩
                    refine dw1 25 rfl rfl ?_
                    refine o_pass rfl rfl rfl rfl ?_
                    refine o_nil ⟨rfl, ?_⟩
                    refine dws ?_
                    refine d_pure [3, 108] [] rfl rfl (fun _ => gp_passU rfl rfl rfl) ?_
                    refine d_pure [8, 108] [] rfl rfl (fun _ => gp_passU rfl rfl rfl) ?_
                    refine d_pure [109, 110, 108] [] rfl rfl (fun _ => gp_passU rfl rfl rfl) ?_
                    refine d_pure [111, 108] [] rfl rfl (fun _ => gp_passU rfl rfl rfl) ?_
                    refine d_pure [112, 108] [] rfl rfl (fun _ => gp_passU rfl rfl rfl) ?_
                    refine d_pure [113, 108] [] rfl rfl (fun _ => gp_passU rfl rfl rfl) ?_
                    refine d_pure [3, 108] [] rfl rfl (fun _ => gp_passU rfl rfl rfl) ?_
                    refine d_pure [5, 108] [] rfl rfl (fun _ => gp_passU rfl rfl rfl) ?_
                    refine d_pure [115, 116, 108] [] rfl rfl (fun _ => gp_passU rfl rfl rfl) ?_
                    refine d_pure [117, 108] [] rfl rfl (fun _ => gp_passU rfl rfl rfl) ?_
                    refine d_pure [118, 108] [] rfl rfl (fun _ => gp_passU rfl rfl rfl) ?_
                    refine d_pure [119, 108] [] rfl rfl (fun _ => gp_passU rfl rfl rfl) ?_
                    refine dwc 37 rfl rfl rfl ?_
                    refine dw1 38 rfl rfl ?_
                    refine o_passU rfl rfl rfl ?_
                    refine o_nil ⟨rfl, ?_⟩
                    refine dw1 39 rfl rfl ?_
                    refine o_pass rfl rfl rfl rfl ?_
                    refine o_nil ⟨rfl, ?_⟩
                    refine dw1 40 rfl rfl ?_
                    refine o_pass rfl rfl rfl rfl ?_
                    refine o_nil ⟨rfl, ?_⟩
                    refine dws ?_
                    refine d_pure [3, 123] [] rfl rfl (fun _ => gp_passU rfl rfl rfl) ?_
                    refine d_pure [8, 123] [] rfl rfl (fun _ => gp_passU rfl rfl rfl) ?_
                    refine d_pure [124, 125, 123] [] rfl rfl (fun _ => gp_passU rfl rfl rfl) ?_
                    refine d_pure [126, 123] [] rfl rfl (fun _ => gp_passU rfl rfl rfl) ?_
                    refine d_pure [127, 123] [] rfl rfl (fun _ => gp_passU rfl rfl rfl) ?_
                    refine d_pure [3, 123] [] rfl rfl (fun _ => gp_passU rfl rfl rfl) ?_
                    refine d_pure [5, 123] [] rfl rfl (fun _ => gp_passU rfl rfl rfl) ?_
                    refine d_pure [129, 130, 123] [] rfl rfl (fun _ => gp_passU rfl rfl rfl) ?_
                    refine d_pure [131, 123] [] rfl rfl (fun _ => gp_passU rfl rfl rfl) ?_
                    refine d_pure [132, 123] [] rfl rfl (fun _ => gp_passU rfl rfl rfl) ?_
                    have hdk := hbd _ (List.getElem_mem hk1)
                    simp only [Mx] at hdk
                    refine d_pure [133, 123] [] rfl rfl (fun _ => gp_passU rfl rfl rfl) ?_
                    refine dwc 51 rfl rfl rfl ?_
                    refine dw1 52 rfl rfl ?_
                    refine o_passU rfl rfl rfl ?_
                    refine o_nil ⟨rfl, ?_⟩
                    refine dw1 53 rfl rfl ?_
                    refine o_pass rfl rfl rfl rfl ?_
                    refine o_nil ⟨rfl, ?_⟩
                    refine dw1 54 rfl rfl ?_
                    refine Pstep.go (st_pickT rfl rfl rfl rfl) ?_
                    refine o_nil ⟨rfl, ?_⟩
                    refine dw1 55 rfl rfl ?_
                    refine Pstep.go (st_assign rfl rfl) ?_
                    refine o_nil ⟨rfl, ?_⟩
                    refine dwe ?_
                    refine a_region ?_
                    refine Pstep.go (st_move rfl rfl) ?_
                    refine Pstep.go (st_add rfl rfl (wrapS (m + 1) (by omega)) rfl) ?_
                    refine Pstep.go (st_assign rfl rfl) ?_
                    refine o_nil ?_
                    exact ⟨(m + 1, _, _), ⟨by show m + 1 ≤ _; omega, by show _ = ((L.take (m + 1)).map (bs L[k].1.acc.a)).sum; rw [sum_snoc hm1, ← hn]; unfold bs; simp_all, by show _ = (L.take (m + 1)).any (opp L[k]); rw [any_snoc hm1, ← hb]; unfold opp; first | (simp_all; done) | (show decide (L[m].2 = 0 - L[k].2) = _; simp_all)⟩, by show L.length - (m + 1) < L.length - m; omega, lep_of hF [] rfl (rfl) ⟨rfl, rfl, rfl, rfl, rfl, trivial⟩⟩
                  · refine o_nil ⟨rfl, ?_⟩
                    refine dws ?_
                    refine d_pure [3, 85] [] rfl rfl (fun _ => gp_run rfl rfl rfl (st_move rfl rfl)) ?_
                    refine d_pure [8, 85] [] rfl rfl (fun _ => gp_run rfl rfl rfl (st_move rfl rfl)) ?_
                    refine dwc 4 rfl rfl rfl ?_
                    refine dw1 5 rfl rfl ?_
                    refine o_run rfl rfl rfl ?_
                    refine Pstep.go (st_indexD (m) rfl rfl (rfl) (getm hm1) Try.underlying37 rfl sz45 rfl) ?_
                    refine o_nil ⟨rfl, ?_⟩
                    refine dw1 6 rfl rfl ?_
                    refine o_run rfl rfl rfl ?_
                    refine Pstep.go (st_fieldFS rfl fi45_0 rfl rfl rfl) ?_
                    refine o_nil ⟨rfl, ?_⟩
                    refine dw1 7 rfl rfl ?_
                    refine o_run rfl rfl rfl ?_
                    refine Pstep.go (st_fieldF1 rfl fi43_0 rfl rfl rfl) ?_
                    refine o_nil ⟨rfl, ?_⟩
                    refine dw1 8 rfl rfl ?_
                    refine o_run rfl rfl rfl ?_
                    refine Pstep.go (st_loadD1 rfl rfl on3 rfl) ?_
                    refine o_nil ⟨rfl, ?_⟩
                    refine dw1 9 rfl rfl ?_
                    refine o_run rfl rfl rfl ?_
                    refine Pstep.go (st_eql rfl rfl rfl) ?_
                    refine o_nil ⟨rfl, ?_⟩
                    refine dw1 10 rfl rfl ?_
                    refine o_run rfl rfl rfl ?_
                    refine Pstep.go (st_move rfl rfl) ?_
                    refine o_splitP 93 rfl (fun h93 => ?_) (fun h93 => ?_)
                    · refine o_nil ⟨rfl, ?_⟩
                      refine dws ?_
                      refine d_pure [3, 93] [] rfl rfl (fun _ => gp_run rfl rfl rfl (st_move rfl rfl)) ?_
                      refine d_pure [8, 93] [] rfl rfl (fun _ => gp_run rfl rfl rfl (st_move rfl rfl)) ?_
                      refine d_pure [94, 95, 93] [] rfl rfl (fun _ => gp_run rfl rfl rfl (st_indexD (m) rfl rfl (rfl) (getm hm1) Try.underlying37 rfl sz45 rfl)) ?_
                      refine d_pure [96, 93] [] rfl rfl (fun _ => gp_run rfl rfl rfl (st_fieldFS rfl fi45_0 rfl rfl rfl)) ?_
                      refine d_pure [97, 93] [] rfl rfl (fun _ => gp_run rfl rfl rfl (st_fieldF1 rfl fi43_2 rfl rfl rfl)) ?_
                      refine d_pure [98, 93] [] rfl rfl (fun _ => gp_run rfl rfl rfl (st_loadD1 rfl rfl on9 rfl)) ?_
                      refine d_pure [3, 93] [] rfl rfl (fun _ => gp_run rfl rfl rfl (st_move rfl rfl)) ?_
                      refine d_pure [5, 93] [] rfl rfl (fun _ => gp_run rfl rfl rfl (st_move rfl rfl)) ?_
                      refine d_pure [100, 101, 93] [] rfl rfl (fun _ => gp_run rfl rfl rfl (st_indexD (k) rfl rfl (rfl) (getm hk1) Try.underlying37 rfl sz45 rfl)) ?_
                      refine d_pure [102, 93] [] rfl rfl (fun _ => gp_run rfl rfl rfl (st_fieldFS rfl fi45_0 rfl rfl rfl)) ?_
                      refine d_pure [103, 93] [] rfl rfl (fun _ => gp_run rfl rfl rfl (st_fieldF1 rfl fi43_3 rfl rfl rfl)) ?_
                      refine d_pure [104, 93] [] rfl rfl (fun _ => gp_run rfl rfl rfl (st_loadD1 rfl rfl on9 rfl)) ?_
                      refine dwc 22 rfl rfl rfl ?_
                      refine dw1 23 rfl rfl ?_
                      refine o_run rfl rfl rfl ?_
                      refine Pstep.go (st_eqlSL rfl rfl rfl) ?_
                      refine o_nil ⟨rfl, ?_⟩
                      refine dw1 24 rfl rfl ?_
                      refine o_run rfl rfl rfl ?_
                      refine Pstep.go (st_pickT rfl rfl rfl rfl) ?_
                      refine o_nil ⟨rfl, ?_⟩
                      refine dw1 25 rfl rfl ?_
                      refine o_run rfl rfl rfl ?_
                      refine Pstep.go (st_move rfl rfl) ?_
                      refine o_splitP 108 rfl (fun h108 => ?_) (fun h108 => ?_)
                      · refine o_nil ⟨rfl, ?_⟩
                        refine dws ?_
                        refine d_pure [3, 108] [] rfl rfl (fun _ => gp_run rfl rfl rfl (st_move rfl rfl)) ?_
                        refine d_pure [8, 108] [] rfl rfl (fun _ => gp_run rfl rfl rfl (st_move rfl rfl)) ?_
                        refine d_pure [109, 110, 108] [] rfl rfl (fun _ => gp_run rfl rfl rfl (st_indexD (m) rfl rfl (rfl) (getm hm1) Try.underlying37 rfl sz45 rfl)) ?_
                        refine d_pure [111, 108] [] rfl rfl (fun _ => gp_run rfl rfl rfl (st_fieldFS rfl fi45_0 rfl rfl rfl)) ?_
                        refine d_pure [112, 108] [] rfl rfl (fun _ => gp_run rfl rfl rfl (st_fieldF1 rfl fi43_3 rfl rfl rfl)) ?_
                        refine d_pure [113, 108] [] rfl rfl (fun _ => gp_run rfl rfl rfl (st_loadD1 rfl rfl on9 rfl)) ?_
                        refine d_pure [3, 108] [] rfl rfl (fun _ => gp_run rfl rfl rfl (st_move rfl rfl)) ?_
                        refine d_pure [5, 108] [] rfl rfl (fun _ => gp_run rfl rfl rfl (st_move rfl rfl)) ?_
                        refine d_pure [115, 116, 108] [] rfl rfl (fun _ => gp_run rfl rfl rfl (st_indexD (k) rfl rfl (rfl) (getm hk1) Try.underlying37 rfl sz45 rfl)) ?_
                        refine d_pure [117, 108] [] rfl rfl (fun _ => gp_run rfl rfl rfl (st_fieldFS rfl fi45_0 rfl rfl rfl)) ?_
                        refine d_pure [118, 108] [] rfl rfl (fun _ => gp_run rfl rfl rfl (st_fieldF1 rfl fi43_2 rfl rfl rfl)) ?_
                        refine d_pure [119, 108] [] rfl rfl (fun _ => gp_run rfl rfl rfl (st_loadD1 rfl rfl on9 rfl)) ?_
                        refine dwc 37 rfl rfl rfl ?_
                        refine dw1 38 rfl rfl ?_
                        refine o_run rfl rfl rfl ?_
                        refine Pstep.go (st_eqlSL rfl rfl rfl) ?_
                        refine o_nil ⟨rfl, ?_⟩
                        refine dw1 39 rfl rfl ?_
                        refine o_run rfl rfl rfl ?_
                        refine Pstep.go (st_pickT rfl rfl rfl rfl) ?_
                        refine o_nil ⟨rfl, ?_⟩
                        refine dw1 40 rfl rfl ?_
                        refine o_run rfl rfl rfl ?_
                        refine Pstep.go (st_move rfl rfl) ?_
                        refine o_splitP 123 rfl (fun h123 => ?_) (fun h123 => ?_)
                        · refine o_nil ⟨rfl, ?_⟩
                          refine dws ?_
                          refine d_pure [3, 123] [] rfl rfl (fun _ => gp_run rfl rfl rfl (st_move rfl rfl)) ?_
                          refine d_pure [8, 123] [] rfl rfl (fun _ => gp_run rfl rfl rfl (st_move rfl rfl)) ?_
                          refine d_pure [124, 125, 123] [] rfl rfl (fun _ => gp_run rfl rfl rfl (st_indexD (m) rfl rfl (rfl) (getm hm1) Try.underlying37 rfl sz45 rfl)) ?_
                          refine d_pure [126, 123] [] rfl rfl (fun _ => gp_run rfl rfl rfl (st_fieldF1 rfl fi45_1 rfl rfl rfl)) ?_
                          refine d_pure [127, 123] [] rfl rfl (fun _ => gp_run rfl rfl rfl (st_loadD1 rfl rfl on2 rfl)) ?_
                          refine d_pure [3, 123] [] rfl rfl (fun _ => gp_run rfl rfl rfl (st_move rfl rfl)) ?_
                          refine d_pure [5, 123] [] rfl rfl (fun _ => gp_run rfl rfl rfl (st_move rfl rfl)) ?_
                          refine d_pure [129, 130, 123] [] rfl rfl (fun _ => gp_run rfl rfl rfl (st_indexD (k) rfl rfl (rfl) (getm hk1) Try.underlying37 rfl sz45 rfl)) ?_
                          refine d_pure [131, 123] [] rfl rfl (fun _ => gp_run rfl rfl rfl (st_fieldF1 rfl fi45_1 rfl rfl rfl)) ?_
                          refine d_pure [132, 123] [] rfl rfl (fun _ => gp_run rfl rfl rfl (st_loadD1 rfl rfl on2 rfl)) ?_
                          have hdk := hbd _ (List.getElem_mem hk1)
                          simp only [Mx] at hdk
                          refine d_pure [133, 123] [] rfl rfl (fun _ => gp_run rfl rfl rfl (st_neg rfl (IntWalk.i64_in _ (by omega)) rfl)) ?_
                          refine dwc 51 rfl rfl rfl ?_
                          refine dw1 52 rfl rfl ?_
                          refine o_run rfl rfl rfl ?_
                          refine Pstep.go (st_eql rfl rfl rfl) ?_
                          refine o_nil ⟨rfl, ?_⟩
                          refine dw1 53 rfl rfl ?_
                          refine o_run rfl rfl rfl ?_
                          refine Pstep.go (st_pickT rfl rfl rfl rfl) ?_
                          refine o_nil ⟨rfl, ?_⟩
                          refine dw1 54 rfl rfl ?_
                          refine Pstep.go (st_pickF rfl rfl rfl rfl) ?_
                          refine o_nil ⟨rfl, ?_⟩
                          refine dw1 55 rfl rfl ?_
                          refine Pstep.go (st_assign rfl rfl) ?_
                          refine o_nil ⟨rfl, ?_⟩
                          refine dwe ?_
                          refine a_region ?_
                          refine Pstep.go (st_move rfl rfl) ?_
                          refine Pstep.go (st_add rfl rfl (wrapS (m + 1) (by omega)) rfl) ?_
                          refine Pstep.go (st_assign rfl rfl) ?_
                          refine o_nil ?_
                          exact ⟨(m + 1, _, _), ⟨by show m + 1 ≤ _; omega, by show _ = ((L.take (m + 1)).map (bs L[k].1.acc.a)).sum; rw [sum_snoc hm1, ← hn]; unfold bs; simp_all, by show _ = (L.take (m + 1)).any (opp L[k]); rw [any_snoc hm1, ← hb]; unfold opp; first | (simp_all; done) | (show decide (L[m].2 = 0 - L[k].2) = _; simp_all)⟩, by show L.length - (m + 1) < L.length - m; omega, lep_of hF [] rfl (rfl) ⟨rfl, rfl, rfl, rfl, rfl, trivial⟩⟩
                        · refine o_nil ⟨rfl, ?_⟩
                          refine dws ?_
                          refine d_pure [3, 123] [] rfl rfl (fun _ => gp_pass rfl rfl rfl rfl) ?_
                          refine d_pure [8, 123] [] rfl rfl (fun _ => gp_pass rfl rfl rfl rfl) ?_
                          refine d_pure [124, 125, 123] [] rfl rfl (fun _ => gp_pass rfl rfl rfl rfl) ?_
                          refine d_pure [126, 123] [] rfl rfl (fun _ => gp_pass rfl rfl rfl rfl) ?_
                          refine d_pure [127, 123] [] rfl rfl (fun _ => gp_pass rfl rfl rfl rfl) ?_
                          refine d_pure [3, 123] [] rfl rfl (fun _ => gp_pass rfl rfl rfl rfl) ?_
                          refine d_pure [5, 123] [] rfl rfl (fun _ => gp_pass rfl rfl rfl rfl) ?_
                          refine d_pure [129, 130, 123] [] rfl rfl (fun _ => gp_pass rfl rfl rfl rfl) ?_
                          refine d_pure [131, 123] [] rfl rfl (fun _ => gp_pass rfl rfl rfl rfl) ?_
                          refine d_pure [132, 123] [] rfl rfl (fun _ => gp_pass rfl rfl rfl rfl) ?_
                          have hdk := hbd _ (List.getElem_mem hk1)
                          simp only [Mx] at hdk
                          refine d_pure [133, 123] [] rfl rfl (fun _ => gp_pass rfl rfl rfl rfl) ?_
                          refine dwc 51 rfl rfl rfl ?_
                          refine dw1 52 rfl rfl ?_
                          refine o_pass rfl rfl rfl rfl ?_
                          refine o_nil ⟨rfl, ?_⟩
                          refine dw1 53 rfl rfl ?_
                          refine o_run rfl rfl rfl ?_
                          refine Pstep.go (st_pickF rfl rfl rfl rfl) ?_
                          refine o_nil ⟨rfl, ?_⟩
                          refine dw1 54 rfl rfl ?_
                          refine Pstep.go (st_pickF rfl rfl rfl rfl) ?_
                          refine o_nil ⟨rfl, ?_⟩
                          refine dw1 55 rfl rfl ?_
                          refine Pstep.go (st_assign rfl rfl) ?_
                          refine o_nil ⟨rfl, ?_⟩
                          refine dwe ?_
                          refine a_region ?_
                          refine Pstep.go (st_move rfl rfl) ?_
                          refine Pstep.go (st_add rfl rfl (wrapS (m + 1) (by omega)) rfl) ?_
                          refine Pstep.go (st_assign rfl rfl) ?_
                          refine o_nil ?_
                          exact ⟨(m + 1, _, _), ⟨by show m + 1 ≤ _; omega, by show _ = ((L.take (m + 1)).map (bs L[k].1.acc.a)).sum; rw [sum_snoc hm1, ← hn]; unfold bs; simp_all, by show _ = (L.take (m + 1)).any (opp L[k]); rw [any_snoc hm1, ← hb]; unfold opp; first | (simp_all; done) | (show decide (L[m].2 = 0 - L[k].2) = _; simp_all)⟩, by show L.length - (m + 1) < L.length - m; omega, lep_of hF [] rfl (rfl) ⟨rfl, rfl, rfl, rfl, rfl, trivial⟩⟩
                      · refine o_nil ⟨rfl, ?_⟩
                        refine dws ?_
                        refine d_pure [3, 108] [] rfl rfl (fun _ => gp_pass rfl rfl rfl rfl) ?_
                        refine d_pure [8, 108] [] rfl rfl (fun _ => gp_pass rfl rfl rfl rfl) ?_
                        refine d_pure [109, 110, 108] [] rfl rfl (fun _ => gp_pass rfl rfl rfl rfl) ?_
                        refine d_pure [111, 108] [] rfl rfl (fun _ => gp_pass rfl rfl rfl rfl) ?_
                        refine d_pure [112, 108] [] rfl rfl (fun _ => gp_pass rfl rfl rfl rfl) ?_
                        refine d_pure [113, 108] [] rfl rfl (fun _ => gp_pass rfl rfl rfl rfl) ?_
                        refine d_pure [3, 108] [] rfl rfl (fun _ => gp_pass rfl rfl rfl rfl) ?_
                        refine d_pure [5, 108] [] rfl rfl (fun _ => gp_pass rfl rfl rfl rfl) ?_
                        refine d_pure [115, 116, 108] [] rfl rfl (fun _ => gp_pass rfl rfl rfl rfl) ?_
                        refine d_pure [117, 108] [] rfl rfl (fun _ => gp_pass rfl rfl rfl rfl) ?_
                        refine d_pure [118, 108] [] rfl rfl (fun _ => gp_pass rfl rfl rfl rfl) ?_
                        refine d_pure [119, 108] [] rfl rfl (fun _ => gp_pass rfl rfl rfl rfl) ?_
                        refine dwc 37 rfl rfl rfl ?_
                        refine dw1 38 rfl rfl ?_
                        refine o_pass rfl rfl rfl rfl ?_
                        refine o_nil ⟨rfl, ?_⟩
                        refine dw1 39 rfl rfl ?_
                        refine o_run rfl rfl rfl ?_
                        refine Pstep.go (st_pickF rfl rfl rfl rfl) ?_
                        refine o_nil ⟨rfl, ?_⟩
                        refine dw1 40 rfl rfl ?_
                        refine o_run rfl rfl rfl ?_
                        refine Pstep.go (st_move rfl rfl) ?_
                        refine o_nil ⟨rfl, ?_⟩
                        refine dws ?_
                        refine d_pure [3, 123] [] rfl rfl (fun _ => gp_pass rfl rfl rfl rfl) ?_
                        refine d_pure [8, 123] [] rfl rfl (fun _ => gp_pass rfl rfl rfl rfl) ?_
                        refine d_pure [124, 125, 123] [] rfl rfl (fun _ => gp_pass rfl rfl rfl rfl) ?_
                        refine d_pure [126, 123] [] rfl rfl (fun _ => gp_pass rfl rfl rfl rfl) ?_
                        refine d_pure [127, 123] [] rfl rfl (fun _ => gp_pass rfl rfl rfl rfl) ?_
                        refine d_pure [3, 123] [] rfl rfl (fun _ => gp_pass rfl rfl rfl rfl) ?_
                        refine d_pure [5, 123] [] rfl rfl (fun _ => gp_pass rfl rfl rfl rfl) ?_
                        refine d_pure [129, 130, 123] [] rfl rfl (fun _ => gp_pass rfl rfl rfl rfl) ?_
                        refine d_pure [131, 123] [] rfl rfl (fun _ => gp_pass rfl rfl rfl rfl) ?_
                        refine d_pure [132, 123] [] rfl rfl (fun _ => gp_pass rfl rfl rfl rfl) ?_
                        have hdk := hbd _ (List.getElem_mem hk1)
                        simp only [Mx] at hdk
                        refine d_pure [133, 123] [] rfl rfl (fun _ => gp_pass rfl rfl rfl rfl) ?_
                        refine dwc 51 rfl rfl rfl ?_
                        refine dw1 52 rfl rfl ?_
                        refine o_pass rfl rfl rfl rfl ?_
                        refine o_nil ⟨rfl, ?_⟩
                        refine dw1 53 rfl rfl ?_
                        refine o_run rfl rfl rfl ?_
                        refine Pstep.go (st_pickF rfl rfl rfl rfl) ?_
                        refine o_nil ⟨rfl, ?_⟩
                        refine dw1 54 rfl rfl ?_
                        refine Pstep.go (st_pickF rfl rfl rfl rfl) ?_
                        refine o_nil ⟨rfl, ?_⟩
                        refine dw1 55 rfl rfl ?_
                        refine Pstep.go (st_assign rfl rfl) ?_
                        refine o_nil ⟨rfl, ?_⟩
                        refine dwe ?_
                        refine a_region ?_
                        refine Pstep.go (st_move rfl rfl) ?_
                        refine Pstep.go (st_add rfl rfl (wrapS (m + 1) (by omega)) rfl) ?_
                        refine Pstep.go (st_assign rfl rfl) ?_
                        refine o_nil ?_
                        exact ⟨(m + 1, _, _), ⟨by show m + 1 ≤ _; omega, by show _ = ((L.take (m + 1)).map (bs L[k].1.acc.a)).sum; rw [sum_snoc hm1, ← hn]; unfold bs; simp_all, by show _ = (L.take (m + 1)).any (opp L[k]); rw [any_snoc hm1, ← hb]; unfold opp; first | (simp_all; done) | (show decide (L[m].2 = 0 - L[k].2) = _; simp_all)⟩, by show L.length - (m + 1) < L.length - m; omega, lep_of hF [] rfl (rfl) ⟨rfl, rfl, rfl, rfl, rfl, trivial⟩⟩
                    · refine o_nil ⟨rfl, ?_⟩
                      refine dws ?_
                      refine d_pure [3, 93] [] rfl rfl (fun _ => gp_pass rfl rfl rfl rfl) ?_
                      refine d_pure [8, 93] [] rfl rfl (fun _ => gp_pass rfl rfl rfl rfl) ?_
                      refine d_pure [94, 95, 93] [] rfl rfl (fun _ => gp_pass rfl rfl rfl rfl) ?_
                      refine d_pure [96, 93] [] rfl rfl (fun _ => gp_pass rfl rfl rfl rfl) ?_
                      refine d_pure [97, 93] [] rfl rfl (fun _ => gp_pass rfl rfl rfl rfl) ?_
                      refine d_pure [98, 93] [] rfl rfl (fun _ => gp_pass rfl rfl rfl rfl) ?_
                      refine d_pure [3, 93] [] rfl rfl (fun _ => gp_pass rfl rfl rfl rfl) ?_
                      refine d_pure [5, 93] [] rfl rfl (fun _ => gp_pass rfl rfl rfl rfl) ?_
                      refine d_pure [100, 101, 93] [] rfl rfl (fun _ => gp_pass rfl rfl rfl rfl) ?_
                      refine d_pure [102, 93] [] rfl rfl (fun _ => gp_pass rfl rfl rfl rfl) ?_
                      refine d_pure [103, 93] [] rfl rfl (fun _ => gp_pass rfl rfl rfl rfl) ?_
                      refine d_pure [104, 93] [] rfl rfl (fun _ => gp_pass rfl rfl rfl rfl) ?_
                      refine dwc 22 rfl rfl rfl ?_
                      refine dw1 23 rfl rfl ?_
                      refine o_pass rfl rfl rfl rfl ?_
                      refine o_nil ⟨rfl, ?_⟩
                      refine dw1 24 rfl rfl ?_
                      refine o_run rfl rfl rfl ?_
                      refine Pstep.go (st_pickF rfl rfl rfl rfl) ?_
                      refine o_nil ⟨rfl, ?_⟩
                      refine dw1 25 rfl rfl ?_
                      refine o_run rfl rfl rfl ?_
                      refine Pstep.go (st_move rfl rfl) ?_
                      refine o_nil ⟨rfl, ?_⟩
                      refine dws ?_
                      refine d_pure [3, 108] [] rfl rfl (fun _ => gp_pass rfl rfl rfl rfl) ?_
                      refine d_pure [8, 108] [] rfl rfl (fun _ => gp_pass rfl rfl rfl rfl) ?_
                      refine d_pure [109, 110, 108] [] rfl rfl (fun _ => gp_pass rfl rfl rfl rfl) ?_
                      refine d_pure [111, 108] [] rfl rfl (fun _ => gp_pass rfl rfl rfl rfl) ?_
                      refine d_pure [112, 108] [] rfl rfl (fun _ => gp_pass rfl rfl rfl rfl) ?_
                      refine d_pure [113, 108] [] rfl rfl (fun _ => gp_pass rfl rfl rfl rfl) ?_
                      refine d_pure [3, 108] [] rfl rfl (fun _ => gp_pass rfl rfl rfl rfl) ?_
                      refine d_pure [5, 108] [] rfl rfl (fun _ => gp_pass rfl rfl rfl rfl) ?_
                      refine d_pure [115, 116, 108] [] rfl rfl (fun _ => gp_pass rfl rfl rfl rfl) ?_
                      refine d_pure [117, 108] [] rfl rfl (fun _ => gp_pass rfl rfl rfl rfl) ?_
                      refine d_pure [118, 108] [] rfl rfl (fun _ => gp_pass rfl rfl rfl rfl) ?_
                      refine d_pure [119, 108] [] rfl rfl (fun _ => gp_pass rfl rfl rfl rfl) ?_
                      refine dwc 37 rfl rfl rfl ?_
                      refine dw1 38 rfl rfl ?_
                      refine o_pass rfl rfl rfl rfl ?_
                      refine o_nil ⟨rfl, ?_⟩
                      refine dw1 39 rfl rfl ?_
                      refine o_run rfl rfl rfl ?_
                      refine Pstep.go (st_pickF rfl rfl rfl rfl) ?_
                      refine o_nil ⟨rfl, ?_⟩
                      refine dw1 40 rfl rfl ?_
                      refine o_run rfl rfl rfl ?_
                      refine Pstep.go (st_move rfl rfl) ?_
                      refine o_nil ⟨rfl, ?_⟩
                      refine dws ?_
                      refine d_pure [3, 123] [] rfl rfl (fun _ => gp_pass rfl rfl rfl rfl) ?_
                      refine d_pure [8, 123] [] rfl rfl (fun _ => gp_pass rfl rfl rfl rfl) ?_
                      refine d_pure [124, 125, 123] [] rfl rfl (fun _ => gp_pass rfl rfl rfl rfl) ?_
                      refine d_pure [126, 123] [] rfl rfl (fun _ => gp_pass rfl rfl rfl rfl) ?_
                      refine d_pure [127, 123] [] rfl rfl (fun _ => gp_pass rfl rfl rfl rfl) ?_
                      refine d_pure [3, 123] [] rfl rfl (fun _ => gp_pass rfl rfl rfl rfl) ?_
                      refine d_pure [5, 123] [] rfl rfl (fun _ => gp_pass rfl rfl rfl rfl) ?_
                      refine d_pure [129, 130, 123] [] rfl rfl (fun _ => gp_pass rfl rfl rfl rfl) ?_
                      refine d_pure [131, 123] [] rfl rfl (fun _ => gp_pass rfl rfl rfl rfl) ?_
                      refine d_pure [132, 123] [] rfl rfl (fun _ => gp_pass rfl rfl rfl rfl) ?_
                      have hdk := hbd _ (List.getElem_mem hk1)
                      simp only [Mx] at hdk
                      refine d_pure [133, 123] [] rfl rfl (fun _ => gp_pass rfl rfl rfl rfl) ?_
                      refine dwc 51 rfl rfl rfl ?_
                      refine dw1 52 rfl rfl ?_
                      refine o_pass rfl rfl rfl rfl ?_
                      refine o_nil ⟨rfl, ?_⟩
                      refine dw1 53 rfl rfl ?_
                      refine o_run rfl rfl rfl ?_
                      refine Pstep.go (st_pickF rfl rfl rfl rfl) ?_
                      refine o_nil ⟨rfl, ?_⟩
                      refine dw1 54 rfl rfl ?_
                      refine Pstep.go (st_pickF rfl rfl rfl rfl) ?_
                      refine o_nil ⟨rfl, ?_⟩
                      refine dw1 55 rfl rfl ?_
                      refine Pstep.go (st_assign rfl rfl) ?_
                      refine o_nil ⟨rfl, ?_⟩
                      refine dwe ?_
                      refine a_region ?_
                      refine Pstep.go (st_move rfl rfl) ?_
                      refine Pstep.go (st_add rfl rfl (wrapS (m + 1) (by omega)) rfl) ?_
                      refine Pstep.go (st_assign rfl rfl) ?_
                      refine o_nil ?_
                      exact ⟨(m + 1, _, _), ⟨by show m + 1 ≤ _; omega, by show _ = ((L.take (m + 1)).map (bs L[k].1.acc.a)).sum; rw [sum_snoc hm1, ← hn]; unfold bs; simp_all, by show _ = (L.take (m + 1)).any (opp L[k]); rw [any_snoc hm1, ← hb]; unfold opp; first | (simp_all; done) | (show decide (L[m].2 = 0 - L[k].2) = _; simp_all)⟩, by show L.length - (m + 1) < L.length - m; omega, lep_of hF [] rfl (rfl) ⟨rfl, rfl, rfl, rfl, rfl, trivial⟩⟩
                · refine a_skip ?_
                  refine a_drawn [[], [0], [0, 1], [0, 1], [0, 1, 2, 3], [0, 1, 2, 3, 4], [0, 1, 2, 3, 4, 5], [0, 1, 2, 3, 4, 5, 6], [0, 1, 2, 3, 4, 5, 6, 7], [0, 1, 2, 3, 4, 5, 6, 7, 8], [0, 1, 2, 3, 4, 5, 6, 7, 8, 9], [0, 1, 2, 3, 4, 5, 6, 7, 8, 9], [0, 1, 2, 3, 4, 5, 6, 7, 8, 9, 10, 11], [0, 1, 2, 3, 4, 5, 6, 7, 8, 9, 10, 11, 12], [0, 1, 2, 3, 4, 5, 6, 7, 8, 9, 10, 11, 12, 13], [0, 1, 2, 3, 4, 5, 6, 7, 8, 9, 10, 11, 12, 13, 14], [0, 1, 2, 3, 4, 5, 6, 7, 8, 9], [0, 1, 2, 3, 4, 5, 6, 7, 8, 9], [0, 1, 2, 3, 4, 5, 6, 7, 8, 9, 16, 17], [0, 1, 2, 3, 4, 5, 6, 7, 8, 9, 16, 17, 18], [0, 1, 2, 3, 4, 5, 6, 7, 8, 9, 16, 17, 18, 19], [0, 1, 2, 3, 4, 5, 6, 7, 8, 9, 16, 17, 18, 19, 20], [0, 1, 2, 3, 4, 5, 6, 7, 8, 9, 10, 11, 12, 13, 14, 15, 16, 17, 18, 19, 20, 21], [0, 1, 2, 3, 4, 5, 6, 7, 8, 9, 10, 11, 12, 13, 14, 15, 16, 17, 18, 19, 20, 21, 22], [0, 1, 2, 3, 4, 5, 6, 7, 8, 9, 10, 11, 12, 13, 14, 15, 16, 17, 18, 19, 20, 21, 22, 23], [0, 1, 2, 3, 4, 5, 6, 7, 8, 9, 10, 11, 12, 13, 14, 15, 16, 17, 18, 19, 20, 21, 22, 23, 24], [0, 1, 2, 3, 4, 5, 6, 7, 8, 9, 10, 11, 12, 13, 14, 15, 16, 17, 18, 19, 20, 21, 22, 23, 24], [0, 1, 2, 3, 4, 5, 6, 7, 8, 9, 10, 11, 12, 13, 14, 15, 16, 17, 18, 19, 20, 21, 22, 23, 24, 25, 26], [0, 1, 2, 3, 4, 5, 6, 7, 8, 9, 10, 11, 12, 13, 14, 15, 16, 17, 18, 19, 20, 21, 22, 23, 24, 25, 26, 27], [0, 1, 2, 3, 4, 5, 6, 7, 8, 9, 10, 11, 12, 13, 14, 15, 16, 17, 18, 19, 20, 21, 22, 23, 24, 25, 26, 27, 28], [0, 1, 2, 3, 4, 5, 6, 7, 8, 9, 10, 11, 12, 13, 14, 15, 16, 17, 18, 19, 20, 21, 22, 23, 24, 25, 26, 27, 28, 29], [0, 1, 2, 3, 4, 5, 6, 7, 8, 9, 10, 11, 12, 13, 14, 15, 16, 17, 18, 19, 20, 21, 22, 23, 24], [0, 1, 2, 3, 4, 5, 6, 7, 8, 9, 10, 11, 12, 13, 14, 15, 16, 17, 18, 19, 20, 21, 22, 23, 24], [0, 1, 2, 3, 4, 5, 6, 7, 8, 9, 10, 11, 12, 13, 14, 15, 16, 17, 18, 19, 20, 21, 22, 23, 24, 31, 32], [0, 1, 2, 3, 4, 5, 6, 7, 8, 9, 10, 11, 12, 13, 14, 15, 16, 17, 18, 19, 20, 21, 22, 23, 24, 31, 32, 33], [0, 1, 2, 3, 4, 5, 6, 7, 8, 9, 10, 11, 12, 13, 14, 15, 16, 17, 18, 19, 20, 21, 22, 23, 24, 31, 32, 33, 34], [0, 1, 2, 3, 4, 5, 6, 7, 8, 9, 10, 11, 12, 13, 14, 15, 16, 17, 18, 19, 20, 21, 22, 23, 24, 31, 32, 33, 34, 35], [0, 1, 2, 3, 4, 5, 6, 7, 8, 9, 10, 11, 12, 13, 14, 15, 16, 17, 18, 19, 20, 21, 22, 23, 24, 25, 26, 27, 28, 29, 30, 31, 32, 33, 34, 35, 36], [0, 1, 2, 3, 4, 5, 6, 7, 8, 9, 10, 11, 12, 13, 14, 15, 16, 17, 18, 19, 20, 21, 22, 23, 24, 25, 26, 27, 28, 29, 30, 31, 32, 33, 34, 35, 36, 37], [0, 1, 2, 3, 4, 5, 6, 7, 8, 9, 10, 11, 12, 13, 14, 15, 16, 17, 18, 19, 20, 21, 22, 23, 24, 25, 26, 27, 28, 29, 30, 31, 32, 33, 34, 35, 36, 37, 38], [0, 1, 2, 3, 4, 5, 6, 7, 8, 9, 10, 11, 12, 13, 14, 15, 16, 17, 18, 19, 20, 21, 22, 23, 24, 25, 26, 27, 28, 29, 30, 31, 32, 33, 34, 35, 36, 37, 38, 39], [0, 1, 2, 3, 4, 5, 6, 7, 8, 9, 10, 11, 12, 13, 14, 15, 16, 17, 18, 19, 20, 21, 22, 23, 24, 25, 26, 27, 28, 29, 30, 31, 32, 33, 34, 35, 36, 37, 38, 39], [0, 1, 2, 3, 4, 5, 6, 7, 8, 9, 10, 11, 12, 13, 14, 15, 16, 17, 18, 19, 20, 21, 22, 23, 24, 25, 26, 27, 28, 29, 30, 31, 32, 33, 34, 35, 36, 37, 38, 39, 40, 41], [0, 1, 2, 3, 4, 5, 6, 7, 8, 9, 10, 11, 12, 13, 14, 15, 16, 17, 18, 19, 20, 21, 22, 23, 24, 25, 26, 27, 28, 29, 30, 31, 32, 33, 34, 35, 36, 37, 38, 39, 40, 41, 42], [0, 1, 2, 3, 4, 5, 6, 7, 8, 9, 10, 11, 12, 13, 14, 15, 16, 17, 18, 19, 20, 21, 22, 23, 24, 25, 26, 27, 28, 29, 30, 31, 32, 33, 34, 35, 36, 37, 38, 39, 40, 41, 42, 43], [0, 1, 2, 3, 4, 5, 6, 7, 8, 9, 10, 11, 12, 13, 14, 15, 16, 17, 18, 19, 20, 21, 22, 23, 24, 25, 26, 27, 28, 29, 30, 31, 32, 33, 34, 35, 36, 37, 38, 39], [0, 1, 2, 3, 4, 5, 6, 7, 8, 9, 10, 11, 12, 13, 14, 15, 16, 17, 18, 19, 20, 21, 22, 23, 24, 25, 26, 27, 28, 29, 30, 31, 32, 33, 34, 35, 36, 37, 38, 39], [0, 1, 2, 3, 4, 5, 6, 7, 8, 9, 10, 11, 12, 13, 14, 15, 16, 17, 18, 19, 20, 21, 22, 23, 24, 25, 26, 27, 28, 29, 30, 31, 32, 33, 34, 35, 36, 37, 38, 39, 45, 46], [0, 1, 2, 3, 4, 5, 6, 7, 8, 9, 10, 11, 12, 13, 14, 15, 16, 17, 18, 19, 20, 21, 22, 23, 24, 25, 26, 27, 28, 29, 30, 31, 32, 33, 34, 35, 36, 37, 38, 39, 45, 46, 47], [0, 1, 2, 3, 4, 5, 6, 7, 8, 9, 10, 11, 12, 13, 14, 15, 16, 17, 18, 19, 20, 21, 22, 23, 24, 25, 26, 27, 28, 29, 30, 31, 32, 33, 34, 35, 36, 37, 38, 39, 45, 46, 47, 48], [0, 1, 2, 3, 4, 5, 6, 7, 8, 9, 10, 11, 12, 13, 14, 15, 16, 17, 18, 19, 20, 21, 22, 23, 24, 25, 26, 27, 28, 29, 30, 31, 32, 33, 34, 35, 36, 37, 38, 39, 45, 46, 47, 48, 49], [0, 1, 2, 3, 4, 5, 6, 7, 8, 9, 10, 11, 12, 13, 14, 15, 16, 17, 18, 19, 20, 21, 22, 23, 24, 25, 26, 27, 28, 29, 30, 31, 32, 33, 34, 35, 36, 37, 38, 39, 40, 41, 42, 43, 44, 45, 46, 47, 48, 49, 50], [0, 1, 2, 3, 4, 5, 6, 7, 8, 9, 10, 11, 12, 13, 14, 15, 16, 17, 18, 19, 20, 21, 22, 23, 24, 25, 26, 27, 28, 29, 30, 31, 32, 33, 34, 35, 36, 37, 38, 39, 40, 41, 42, 43, 44, 45, 46, 47, 48, 49, 50, 51], [0, 1, 2, 3, 4, 5, 6, 7, 8, 9, 10, 11, 12, 13, 14, 15, 16, 17, 18, 19, 20, 21, 22, 23, 24, 25, 26, 27, 28, 29, 30, 31, 32, 33, 34, 35, 36, 37, 38, 39, 40, 41, 42, 43, 44, 45, 46, 47, 48, 49, 50, 51, 52], [0, 1, 2, 3, 4, 5, 6, 7, 8, 9, 10, 11, 12, 13, 14, 15, 16, 17, 18, 19, 20, 21, 22, 23, 24, 25, 26, 27, 28, 29, 30, 31, 32, 33, 34, 35, 36, 37, 38, 39, 40, 41, 42, 43, 44, 45, 46, 47, 48, 49, 50, 51, 52, 53]] mixed rfl ?_
                  refine dw1 1 rfl rfl ?_
                  refine Pstep.go (st_move rfl rfl) ?_
                  refine o_nil ⟨rfl, ?_⟩
                  refine dw1 2 rfl rfl ?_
                  refine Pstep.go (st_move rfl rfl) ?_
                  refine o_splitB 85 rfl (fun h85 => ?_) (fun h85 => ?_)
                  · refine o_nil ⟨rfl, ?_⟩
                    refine dws ?_
                    refine d_pure [3, 85] [] rfl rfl (fun _ => gp_pass rfl rfl rfl rfl) ?_
                    refine d_pure [8, 85] [] rfl rfl (fun _ => gp_pass rfl rfl rfl rfl) ?_
                    refine dwc 4 rfl rfl rfl ?_
                    refine dw1 5 rfl rfl ?_
                    refine o_pass rfl rfl rfl rfl ?_
                    refine o_nil ⟨rfl, ?_⟩
                    refine dw1 6 rfl rfl ?_
                    refine o_pass rfl rfl rfl rfl ?_
                    refine o_nil ⟨rfl, ?_⟩
                    refine dw1 7 rfl rfl ?_
                    refine o_pass rfl rfl rfl rfl ?_
                    refine o_nil ⟨rfl, ?_⟩
                    refine dw1 8 rfl rfl ?_
                    refine o_pass rfl rfl rfl rfl ?_
                    refine o_nil ⟨rfl, ?_⟩
                    refine dw1 9 rfl rfl ?_
                    refine o_pass rfl rfl rfl rfl ?_
                    refine o_nil ⟨rfl, ?_⟩
                    refine dw1 10 rfl rfl ?_
                    refine o_pass rfl rfl rfl rfl ?_
                    refine o_nil ⟨rfl, ?_⟩
                    refine dws ?_
                    refine d_pure [3, 93] [] rfl rfl (fun _ => gp_passU rfl rfl rfl) ?_
                    refine d_pure [8, 93] [] rfl rfl (fun _ => gp_passU rfl rfl rfl) ?_
                    refine d_pure [94, 95, 93] [] rfl rfl (fun _ => gp_passU rfl rfl rfl) ?_
                    refine d_pure [96, 93] [] rfl rfl (fun _ => gp_passU rfl rfl rfl) ?_
                    refine d_pure [97, 93] [] rfl rfl (fun _ => gp_passU rfl rfl rfl) ?_
                    refine d_pure [98, 93] [] rfl rfl (fun _ => gp_passU rfl rfl rfl) ?_
                    refine d_pure [3, 93] [] rfl rfl (fun _ => gp_passU rfl rfl rfl) ?_
                    refine d_pure [5, 93] [] rfl rfl (fun _ => gp_passU rfl rfl rfl) ?_
                    refine d_pure [100, 101, 93] [] rfl rfl (fun _ => gp_passU rfl rfl rfl) ?_
                    refine d_pure [102, 93] [] rfl rfl (fun _ => gp_passU rfl rfl rfl) ?_
                    refine d_pure [103, 93] [] rfl rfl (fun _ => gp_passU rfl rfl rfl) ?_
                    refine d_pure [104, 93] [] rfl rfl (fun _ => gp_passU rfl rfl rfl) ?_
                    refine dwc 22 rfl rfl rfl ?_
                    refine dw1 23 rfl rfl ?_
                    refine o_passU rfl rfl rfl ?_
                    refine o_nil ⟨rfl, ?_⟩
                    refine dw1 24 rfl rfl ?_
                    refine o_pass rfl rfl rfl rfl ?_
                    refine o_nil ⟨rfl, ?_⟩
                    refine dw1 25 rfl rfl ?_
                    refine o_pass rfl rfl rfl rfl ?_
                    refine o_nil ⟨rfl, ?_⟩
                    refine dws ?_
                    refine d_pure [3, 108] [] rfl rfl (fun _ => gp_passU rfl rfl rfl) ?_
                    refine d_pure [8, 108] [] rfl rfl (fun _ => gp_passU rfl rfl rfl) ?_
                    refine d_pure [109, 110, 108] [] rfl rfl (fun _ => gp_passU rfl rfl rfl) ?_
                    refine d_pure [111, 108] [] rfl rfl (fun _ => gp_passU rfl rfl rfl) ?_
                    refine d_pure [112, 108] [] rfl rfl (fun _ => gp_passU rfl rfl rfl) ?_
                    refine d_pure [113, 108] [] rfl rfl (fun _ => gp_passU rfl rfl rfl) ?_
                    refine d_pure [3, 108] [] rfl rfl (fun _ => gp_passU rfl rfl rfl) ?_
                    refine d_pure [5, 108] [] rfl rfl (fun _ => gp_passU rfl rfl rfl) ?_
                    refine d_pure [115, 116, 108] [] rfl rfl (fun _ => gp_passU rfl rfl rfl) ?_
                    refine d_pure [117, 108] [] rfl rfl (fun _ => gp_passU rfl rfl rfl) ?_
                    refine d_pure [118, 108] [] rfl rfl (fun _ => gp_passU rfl rfl rfl) ?_
                    refine d_pure [119, 108] [] rfl rfl (fun _ => gp_passU rfl rfl rfl) ?_
                    refine dwc 37 rfl rfl rfl ?_
                    refine dw1 38 rfl rfl ?_
                    refine o_passU rfl rfl rfl ?_
                    refine o_nil ⟨rfl, ?_⟩
                    refine dw1 39 rfl rfl ?_
                    refine o_pass rfl rfl rfl rfl ?_
                    refine o_nil ⟨rfl, ?_⟩
                    refine dw1 40 rfl rfl ?_
                    refine o_pass rfl rfl rfl rfl ?_
                    refine o_nil ⟨rfl, ?_⟩
                    refine dws ?_
                    refine d_pure [3, 123] [] rfl rfl (fun _ => gp_passU rfl rfl rfl) ?_
                    refine d_pure [8, 123] [] rfl rfl (fun _ => gp_passU rfl rfl rfl) ?_
                    refine d_pure [124, 125, 123] [] rfl rfl (fun _ => gp_passU rfl rfl rfl) ?_
                    refine d_pure [126, 123] [] rfl rfl (fun _ => gp_passU rfl rfl rfl) ?_
                    refine d_pure [127, 123] [] rfl rfl (fun _ => gp_passU rfl rfl rfl) ?_
                    refine d_pure [3, 123] [] rfl rfl (fun _ => gp_passU rfl rfl rfl) ?_
                    refine d_pure [5, 123] [] rfl rfl (fun _ => gp_passU rfl rfl rfl) ?_
                    refine d_pure [129, 130, 123] [] rfl rfl (fun _ => gp_passU rfl rfl rfl) ?_
                    refine d_pure [131, 123] [] rfl rfl (fun _ => gp_passU rfl rfl rfl) ?_
                    refine d_pure [132, 123] [] rfl rfl (fun _ => gp_passU rfl rfl rfl) ?_
                    have hdk := hbd _ (List.getElem_mem hk1)
                    simp only [Mx] at hdk
                    refine d_pure [133, 123] [] rfl rfl (fun _ => gp_passU rfl rfl rfl) ?_
                    refine dwc 51 rfl rfl rfl ?_
                    refine dw1 52 rfl rfl ?_
                    refine o_passU rfl rfl rfl ?_
                    refine o_nil ⟨rfl, ?_⟩
                    refine dw1 53 rfl rfl ?_
                    refine o_pass rfl rfl rfl rfl ?_
                    refine o_nil ⟨rfl, ?_⟩
                    refine dw1 54 rfl rfl ?_
                    refine Pstep.go (st_pickT rfl rfl rfl rfl) ?_
                    refine o_nil ⟨rfl, ?_⟩
                    refine dw1 55 rfl rfl ?_
                    refine Pstep.go (st_assign rfl rfl) ?_
                    refine o_nil ⟨rfl, ?_⟩
                    refine dwe ?_
                    refine a_region ?_
                    refine Pstep.go (st_move rfl rfl) ?_
                    refine Pstep.go (st_add rfl rfl (wrapS (m + 1) (by omega)) rfl) ?_
                    refine Pstep.go (st_assign rfl rfl) ?_
                    refine o_nil ?_
                    exact ⟨(m + 1, _, _), ⟨by show m + 1 ≤ _; omega, by show _ = ((L.take (m + 1)).map (bs L[k].1.acc.a)).sum; rw [sum_snoc hm1, ← hn]; unfold bs; simp_all, by show _ = (L.take (m + 1)).any (opp L[k]); rw [any_snoc hm1, ← hb]; unfold opp; first | (simp_all; done) | (show decide (L[m].2 = 0 - L[k].2) = _; simp_all)⟩, by show L.length - (m + 1) < L.length - m; omega, lep_of hF [] rfl (rfl) ⟨rfl, rfl, rfl, rfl, rfl, trivial⟩⟩
                  · refine o_nil ⟨rfl, ?_⟩
                    refine dws ?_
                    refine d_pure [3, 85] [] rfl rfl (fun _ => gp_run rfl rfl rfl (st_move rfl rfl)) ?_
                    refine d_pure [8, 85] [] rfl rfl (fun _ => gp_run rfl rfl rfl (st_move rfl rfl)) ?_
                    refine dwc 4 rfl rfl rfl ?_
                    refine dw1 5 rfl rfl ?_
                    refine o_run rfl rfl rfl ?_
                    refine Pstep.go (st_indexD (m) rfl rfl (rfl) (getm hm1) Try.underlying37 rfl sz45 rfl) ?_
                    refine o_nil ⟨rfl, ?_⟩
                    refine dw1 6 rfl rfl ?_
                    refine o_run rfl rfl rfl ?_
                    refine Pstep.go (st_fieldFS rfl fi45_0 rfl rfl rfl) ?_
                    refine o_nil ⟨rfl, ?_⟩
                    refine dw1 7 rfl rfl ?_
                    refine o_run rfl rfl rfl ?_
                    refine Pstep.go (st_fieldF1 rfl fi43_0 rfl rfl rfl) ?_
                    refine o_nil ⟨rfl, ?_⟩
                    refine dw1 8 rfl rfl ?_
                    refine o_run rfl rfl rfl ?_
                    refine Pstep.go (st_loadD1 rfl rfl on3 rfl) ?_
                    refine o_nil ⟨rfl, ?_⟩
                    refine dw1 9 rfl rfl ?_
                    refine o_run rfl rfl rfl ?_
                    refine Pstep.go (st_eql rfl rfl rfl) ?_
                    refine o_nil ⟨rfl, ?_⟩
                    refine dw1 10 rfl rfl ?_
                    refine o_run rfl rfl rfl ?_
                    refine Pstep.go (st_move rfl rfl) ?_
                    refine o_splitP 93 rfl (fun h93 => ?_) (fun h93 => ?_)
                    · refine o_nil ⟨rfl, ?_⟩
                      refine dws ?_
                      refine d_pure [3, 93] [] rfl rfl (fun _ => gp_run rfl rfl rfl (st_move rfl rfl)) ?_
                      refine d_pure [8, 93] [] rfl rfl (fun _ => gp_run rfl rfl rfl (st_move rfl rfl)) ?_
                      refine d_pure [94, 95, 93] [] rfl rfl (fun _ => gp_run rfl rfl rfl (st_indexD (m) rfl rfl (rfl) (getm hm1) Try.underlying37 rfl sz45 rfl)) ?_
                      refine d_pure [96, 93] [] rfl rfl (fun _ => gp_run rfl rfl rfl (st_fieldFS rfl fi45_0 rfl rfl rfl)) ?_
                      refine d_pure [97, 93] [] rfl rfl (fun _ => gp_run rfl rfl rfl (st_fieldF1 rfl fi43_2 rfl rfl rfl)) ?_
                      refine d_pure [98, 93] [] rfl rfl (fun _ => gp_run rfl rfl rfl (st_loadD1 rfl rfl on9 rfl)) ?_
                      refine d_pure [3, 93] [] rfl rfl (fun _ => gp_run rfl rfl rfl (st_move rfl rfl)) ?_
                      refine d_pure [5, 93] [] rfl rfl (fun _ => gp_run rfl rfl rfl (st_move rfl rfl)) ?_
                      refine d_pure [100, 101, 93] [] rfl rfl (fun _ => gp_run rfl rfl rfl (st_indexD (k) rfl rfl (rfl) (getm hk1) Try.underlying37 rfl sz45 rfl)) ?_
                      refine d_pure [102, 93] [] rfl rfl (fun _ => gp_run rfl rfl rfl (st_fieldFS rfl fi45_0 rfl rfl rfl)) ?_
                      refine d_pure [103, 93] [] rfl rfl (fun _ => gp_run rfl rfl rfl (st_fieldF1 rfl fi43_3 rfl rfl rfl)) ?_
                      refine d_pure [104, 93] [] rfl rfl (fun _ => gp_run rfl rfl rfl (st_loadD1 rfl rfl on9 rfl)) ?_
                      refine dwc 22 rfl rfl rfl ?_
                      refine dw1 23 rfl rfl ?_
                      refine o_run rfl rfl rfl ?_
                      refine Pstep.go (st_eqlSL rfl rfl rfl) ?_
                      refine o_nil ⟨rfl, ?_⟩
                      refine dw1 24 rfl rfl ?_
                      refine o_run rfl rfl rfl ?_
                      refine Pstep.go (st_pickT rfl rfl rfl rfl) ?_
                      refine o_nil ⟨rfl, ?_⟩
                      refine dw1 25 rfl rfl ?_
                      refine o_run rfl rfl rfl ?_
                      refine Pstep.go (st_move rfl rfl) ?_
                      refine o_splitP 108 rfl (fun h108 => ?_) (fun h108 => ?_)
                      · refine o_nil ⟨rfl, ?_⟩
                        refine dws ?_
                        refine d_pure [3, 108] [] rfl rfl (fun _ => gp_run rfl rfl rfl (st_move rfl rfl)) ?_
                        refine d_pure [8, 108] [] rfl rfl (fun _ => gp_run rfl rfl rfl (st_move rfl rfl)) ?_
                        refine d_pure [109, 110, 108] [] rfl rfl (fun _ => gp_run rfl rfl rfl (st_indexD (m) rfl rfl (rfl) (getm hm1) Try.underlying37 rfl sz45 rfl)) ?_
                        refine d_pure [111, 108] [] rfl rfl (fun _ => gp_run rfl rfl rfl (st_fieldFS rfl fi45_0 rfl rfl rfl)) ?_
                        refine d_pure [112, 108] [] rfl rfl (fun _ => gp_run rfl rfl rfl (st_fieldF1 rfl fi43_3 rfl rfl rfl)) ?_
                        refine d_pure [113, 108] [] rfl rfl (fun _ => gp_run rfl rfl rfl (st_loadD1 rfl rfl on9 rfl)) ?_
                        refine d_pure [3, 108] [] rfl rfl (fun _ => gp_run rfl rfl rfl (st_move rfl rfl)) ?_
                        refine d_pure [5, 108] [] rfl rfl (fun _ => gp_run rfl rfl rfl (st_move rfl rfl)) ?_
                        refine d_pure [115, 116, 108] [] rfl rfl (fun _ => gp_run rfl rfl rfl (st_indexD (k) rfl rfl (rfl) (getm hk1) Try.underlying37 rfl sz45 rfl)) ?_
                        refine d_pure [117, 108] [] rfl rfl (fun _ => gp_run rfl rfl rfl (st_fieldFS rfl fi45_0 rfl rfl rfl)) ?_
                        refine d_pure [118, 108] [] rfl rfl (fun _ => gp_run rfl rfl rfl (st_fieldF1 rfl fi43_2 rfl rfl rfl)) ?_
                        refine d_pure [119, 108] [] rfl rfl (fun _ => gp_run rfl rfl rfl (st_loadD1 rfl rfl on9 rfl)) ?_
                        refine dwc 37 rfl rfl rfl ?_
                        refine dw1 38 rfl rfl ?_
                        refine o_run rfl rfl rfl ?_
                        refine Pstep.go (st_eqlSL rfl rfl rfl) ?_
                        refine o_nil ⟨rfl, ?_⟩
                        refine dw1 39 rfl rfl ?_
                        refine o_run rfl rfl rfl ?_
                        refine Pstep.go (st_pickT rfl rfl rfl rfl) ?_
                        refine o_nil ⟨rfl, ?_⟩
                        refine dw1 40 rfl rfl ?_
                        refine o_run rfl rfl rfl ?_
                        refine Pstep.go (st_move rfl rfl) ?_
                        refine o_splitP 123 rfl (fun h123 => ?_) (fun h123 => ?_)
                        · refine o_nil ⟨rfl, ?_⟩
                          refine dws ?_
                          refine d_pure [3, 123] [] rfl rfl (fun _ => gp_run rfl rfl rfl (st_move rfl rfl)) ?_
                          refine d_pure [8, 123] [] rfl rfl (fun _ => gp_run rfl rfl rfl (st_move rfl rfl)) ?_
                          refine d_pure [124, 125, 123] [] rfl rfl (fun _ => gp_run rfl rfl rfl (st_indexD (m) rfl rfl (rfl) (getm hm1) Try.underlying37 rfl sz45 rfl)) ?_
                          refine d_pure [126, 123] [] rfl rfl (fun _ => gp_run rfl rfl rfl (st_fieldF1 rfl fi45_1 rfl rfl rfl)) ?_
                          refine d_pure [127, 123] [] rfl rfl (fun _ => gp_run rfl rfl rfl (st_loadD1 rfl rfl on2 rfl)) ?_
                          refine d_pure [3, 123] [] rfl rfl (fun _ => gp_run rfl rfl rfl (st_move rfl rfl)) ?_
                          refine d_pure [5, 123] [] rfl rfl (fun _ => gp_run rfl rfl rfl (st_move rfl rfl)) ?_
                          refine d_pure [129, 130, 123] [] rfl rfl (fun _ => gp_run rfl rfl rfl (st_indexD (k) rfl rfl (rfl) (getm hk1) Try.underlying37 rfl sz45 rfl)) ?_
                          refine d_pure [131, 123] [] rfl rfl (fun _ => gp_run rfl rfl rfl (st_fieldF1 rfl fi45_1 rfl rfl rfl)) ?_
                          refine d_pure [132, 123] [] rfl rfl (fun _ => gp_run rfl rfl rfl (st_loadD1 rfl rfl on2 rfl)) ?_
                          have hdk := hbd _ (List.getElem_mem hk1)
                          simp only [Mx] at hdk
                          refine d_pure [133, 123] [] rfl rfl (fun _ => gp_run rfl rfl rfl (st_neg rfl (IntWalk.i64_in _ (by omega)) rfl)) ?_
                          refine dwc 51 rfl rfl rfl ?_
                          refine dw1 52 rfl rfl ?_
                          refine o_run rfl rfl rfl ?_
                          refine Pstep.go (st_eql rfl rfl rfl) ?_
                          refine o_nil ⟨rfl, ?_⟩
                          refine dw1 53 rfl rfl ?_
                          refine o_run rfl rfl rfl ?_
                          refine Pstep.go (st_pickT rfl rfl rfl rfl) ?_
                          refine o_nil ⟨rfl, ?_⟩
                          refine dw1 54 rfl rfl ?_
                          refine Pstep.go (st_pickF rfl rfl rfl rfl) ?_
                          refine o_nil ⟨rfl, ?_⟩
                          refine dw1 55 rfl rfl ?_
                          refine Pstep.go (st_assign rfl rfl) ?_
                          refine o_nil ⟨rfl, ?_⟩
                          refine dwe ?_
                          refine a_region ?_
                          refine Pstep.go (st_move rfl rfl) ?_
                          refine Pstep.go (st_add rfl rfl (wrapS (m + 1) (by omega)) rfl) ?_
                          refine Pstep.go (st_assign rfl rfl) ?_
                          refine o_nil ?_
                          exact ⟨(m + 1, _, _), ⟨by show m + 1 ≤ _; omega, by show _ = ((L.take (m + 1)).map (bs L[k].1.acc.a)).sum; rw [sum_snoc hm1, ← hn]; unfold bs; simp_all, by show _ = (L.take (m + 1)).any (opp L[k]); rw [any_snoc hm1, ← hb]; unfold opp; first | (simp_all; done) | (show decide (L[m].2 = 0 - L[k].2) = _; simp_all)⟩, by show L.length - (m + 1) < L.length - m; omega, lep_of hF [] rfl (rfl) ⟨rfl, rfl, rfl, rfl, rfl, trivial⟩⟩
                        · refine o_nil ⟨rfl, ?_⟩
                          refine dws ?_
                          refine d_pure [3, 123] [] rfl rfl (fun _ => gp_pass rfl rfl rfl rfl) ?_
                          refine d_pure [8, 123] [] rfl rfl (fun _ => gp_pass rfl rfl rfl rfl) ?_
                          refine d_pure [124, 125, 123] [] rfl rfl (fun _ => gp_pass rfl rfl rfl rfl) ?_
                          refine d_pure [126, 123] [] rfl rfl (fun _ => gp_pass rfl rfl rfl rfl) ?_
                          refine d_pure [127, 123] [] rfl rfl (fun _ => gp_pass rfl rfl rfl rfl) ?_
                          refine d_pure [3, 123] [] rfl rfl (fun _ => gp_pass rfl rfl rfl rfl) ?_
                          refine d_pure [5, 123] [] rfl rfl (fun _ => gp_pass rfl rfl rfl rfl) ?_
                          refine d_pure [129, 130, 123] [] rfl rfl (fun _ => gp_pass rfl rfl rfl rfl) ?_
                          refine d_pure [131, 123] [] rfl rfl (fun _ => gp_pass rfl rfl rfl rfl) ?_
                          refine d_pure [132, 123] [] rfl rfl (fun _ => gp_pass rfl rfl rfl rfl) ?_
                          have hdk := hbd _ (List.getElem_mem hk1)
                          simp only [Mx] at hdk
                          refine d_pure [133, 123] [] rfl rfl (fun _ => gp_pass rfl rfl rfl rfl) ?_
                          refine dwc 51 rfl rfl rfl ?_
                          refine dw1 52 rfl rfl ?_
                          refine o_pass rfl rfl rfl rfl ?_
                          refine o_nil ⟨rfl, ?_⟩
                          refine dw1 53 rfl rfl ?_
                          refine o_run rfl rfl rfl ?_
                          refine Pstep.go (st_pickF rfl rfl rfl rfl) ?_
                          refine o_nil ⟨rfl, ?_⟩
                          refine dw1 54 rfl rfl ?_
                          refine Pstep.go (st_pickF rfl rfl rfl rfl) ?_
                          refine o_nil ⟨rfl, ?_⟩
                          refine dw1 55 rfl rfl ?_
                          refine Pstep.go (st_assign rfl rfl) ?_
                          refine o_nil ⟨rfl, ?_⟩
                          refine dwe ?_
                          refine a_region ?_
                          refine Pstep.go (st_move rfl rfl) ?_
                          refine Pstep.go (st_add rfl rfl (wrapS (m + 1) (by omega)) rfl) ?_
                          refine Pstep.go (st_assign rfl rfl) ?_
                          refine o_nil ?_
                          exact ⟨(m + 1, _, _), ⟨by show m + 1 ≤ _; omega, by show _ = ((L.take (m + 1)).map (bs L[k].1.acc.a)).sum; rw [sum_snoc hm1, ← hn]; unfold bs; simp_all, by show _ = (L.take (m + 1)).any (opp L[k]); rw [any_snoc hm1, ← hb]; unfold opp; first | (simp_all; done) | (show decide (L[m].2 = 0 - L[k].2) = _; simp_all)⟩, by show L.length - (m + 1) < L.length - m; omega, lep_of hF [] rfl (rfl) ⟨rfl, rfl, rfl, rfl, rfl, trivial⟩⟩
                      · refine o_nil ⟨rfl, ?_⟩
                        refine dws ?_
                        refine d_pure [3, 108] [] rfl rfl (fun _ => gp_pass rfl rfl rfl rfl) ?_
                        refine d_pure [8, 108] [] rfl rfl (fun _ => gp_pass rfl rfl rfl rfl) ?_
                        refine d_pure [109, 110, 108] [] rfl rfl (fun _ => gp_pass rfl rfl rfl rfl) ?_
                        refine d_pure [111, 108] [] rfl rfl (fun _ => gp_pass rfl rfl rfl rfl) ?_
                        refine d_pure [112, 108] [] rfl rfl (fun _ => gp_pass rfl rfl rfl rfl) ?_
                        refine d_pure [113, 108] [] rfl rfl (fun _ => gp_pass rfl rfl rfl rfl) ?_
                        refine d_pure [3, 108] [] rfl rfl (fun _ => gp_pass rfl rfl rfl rfl) ?_
                        refine d_pure [5, 108] [] rfl rfl (fun _ => gp_pass rfl rfl rfl rfl) ?_
                        refine d_pure [115, 116, 108] [] rfl rfl (fun _ => gp_pass rfl rfl rfl rfl) ?_
                        refine d_pure [117, 108] [] rfl rfl (fun _ => gp_pass rfl rfl rfl rfl) ?_
                        refine d_pure [118, 108] [] rfl rfl (fun _ => gp_pass rfl rfl rfl rfl) ?_
                        refine d_pure [119, 108] [] rfl rfl (fun _ => gp_pass rfl rfl rfl rfl) ?_
                        refine dwc 37 rfl rfl rfl ?_
                        refine dw1 38 rfl rfl ?_
                        refine o_pass rfl rfl rfl rfl ?_
                        refine o_nil ⟨rfl, ?_⟩
                        refine dw1 39 rfl rfl ?_
                        refine o_run rfl rfl rfl ?_
                        refine Pstep.go (st_pickF rfl rfl rfl rfl) ?_
                        refine o_nil ⟨rfl, ?_⟩
                        refine dw1 40 rfl rfl ?_
                        refine o_run rfl rfl rfl ?_
                        refine Pstep.go (st_move rfl rfl) ?_
                        refine o_nil ⟨rfl, ?_⟩
                        refine dws ?_
                        refine d_pure [3, 123] [] rfl rfl (fun _ => gp_pass rfl rfl rfl rfl) ?_
                        refine d_pure [8, 123] [] rfl rfl (fun _ => gp_pass rfl rfl rfl rfl) ?_
                        refine d_pure [124, 125, 123] [] rfl rfl (fun _ => gp_pass rfl rfl rfl rfl) ?_
                        refine d_pure [126, 123] [] rfl rfl (fun _ => gp_pass rfl rfl rfl rfl) ?_
                        refine d_pure [127, 123] [] rfl rfl (fun _ => gp_pass rfl rfl rfl rfl) ?_
                        refine d_pure [3, 123] [] rfl rfl (fun _ => gp_pass rfl rfl rfl rfl) ?_
                        refine d_pure [5, 123] [] rfl rfl (fun _ => gp_pass rfl rfl rfl rfl) ?_
                        refine d_pure [129, 130, 123] [] rfl rfl (fun _ => gp_pass rfl rfl rfl rfl) ?_
                        refine d_pure [131, 123] [] rfl rfl (fun _ => gp_pass rfl rfl rfl rfl) ?_
                        refine d_pure [132, 123] [] rfl rfl (fun _ => gp_pass rfl rfl rfl rfl) ?_
                        have hdk := hbd _ (List.getElem_mem hk1)
                        simp only [Mx] at hdk
                        refine d_pure [133, 123] [] rfl rfl (fun _ => gp_pass rfl rfl rfl rfl) ?_
                        refine dwc 51 rfl rfl rfl ?_
                        refine dw1 52 rfl rfl ?_
                        refine o_pass rfl rfl rfl rfl ?_
                        refine o_nil ⟨rfl, ?_⟩
                        refine dw1 53 rfl rfl ?_
                        refine o_run rfl rfl rfl ?_
                        refine Pstep.go (st_pickF rfl rfl rfl rfl) ?_
                        refine o_nil ⟨rfl, ?_⟩
                        refine dw1 54 rfl rfl ?_
                        refine Pstep.go (st_pickF rfl rfl rfl rfl) ?_
                        refine o_nil ⟨rfl, ?_⟩
                        refine dw1 55 rfl rfl ?_
                        refine Pstep.go (st_assign rfl rfl) ?_
                        refine o_nil ⟨rfl, ?_⟩
                        refine dwe ?_
                        refine a_region ?_
                        refine Pstep.go (st_move rfl rfl) ?_
                        refine Pstep.go (st_add rfl rfl (wrapS (m + 1) (by omega)) rfl) ?_
                        refine Pstep.go (st_assign rfl rfl) ?_
                        refine o_nil ?_
                        exact ⟨(m + 1, _, _), ⟨by show m + 1 ≤ _; omega, by show _ = ((L.take (m + 1)).map (bs L[k].1.acc.a)).sum; rw [sum_snoc hm1, ← hn]; unfold bs; simp_all, by show _ = (L.take (m + 1)).any (opp L[k]); rw [any_snoc hm1, ← hb]; unfold opp; first | (simp_all; done) | (show decide (L[m].2 = 0 - L[k].2) = _; simp_all)⟩, by show L.length - (m + 1) < L.length - m; omega, lep_of hF [] rfl (rfl) ⟨rfl, rfl, rfl, rfl, rfl, trivial⟩⟩
                    · refine o_nil ⟨rfl, ?_⟩
                      refine dws ?_
                      refine d_pure [3, 93] [] rfl rfl (fun _ => gp_pass rfl rfl rfl rfl) ?_
                      refine d_pure [8, 93] [] rfl rfl (fun _ => gp_pass rfl rfl rfl rfl) ?_
                      refine d_pure [94, 95, 93] [] rfl rfl (fun _ => gp_pass rfl rfl rfl rfl) ?_
                      refine d_pure [96, 93] [] rfl rfl (fun _ => gp_pass rfl rfl rfl rfl) ?_
                      refine d_pure [97, 93] [] rfl rfl (fun _ => gp_pass rfl rfl rfl rfl) ?_
                      refine d_pure [98, 93] [] rfl rfl (fun _ => gp_pass rfl rfl rfl rfl) ?_
                      refine d_pure [3, 93] [] rfl rfl (fun _ => gp_pass rfl rfl rfl rfl) ?_
                      refine d_pure [5, 93] [] rfl rfl (fun _ => gp_pass rfl rfl rfl rfl) ?_
                      refine d_pure [100, 101, 93] [] rfl rfl (fun _ => gp_pass rfl rfl rfl rfl) ?_
                      refine d_pure [102, 93] [] rfl rfl (fun _ => gp_pass rfl rfl rfl rfl) ?_
                      refine d_pure [103, 93] [] rfl rfl (fun _ => gp_pass rfl rfl rfl rfl) ?_
                      refine d_pure [104, 93] [] rfl rfl (fun _ => gp_pass rfl rfl rfl rfl) ?_
                      refine dwc 22 rfl rfl rfl ?_
                      refine dw1 23 rfl rfl ?_
                      refine o_pass rfl rfl rfl rfl ?_
                      refine o_nil ⟨rfl, ?_⟩
                      refine dw1 24 rfl rfl ?_
                      refine o_run rfl rfl rfl ?_
                      refine Pstep.go (st_pickF rfl rfl rfl rfl) ?_
                      refine o_nil ⟨rfl, ?_⟩
                      refine dw1 25 rfl rfl ?_
                      refine o_run rfl rfl rfl ?_
                      refine Pstep.go (st_move rfl rfl) ?_
                      refine o_nil ⟨rfl, ?_⟩
                      refine dws ?_
                      refine d_pure [3, 108] [] rfl rfl (fun _ => gp_pass rfl rfl rfl rfl) ?_
                      refine d_pure [8, 108] [] rfl rfl (fun _ => gp_pass rfl rfl rfl rfl) ?_
                      refine d_pure [109, 110, 108] [] rfl rfl (fun _ => gp_pass rfl rfl rfl rfl) ?_
                      refine d_pure [111, 108] [] rfl rfl (fun _ => gp_pass rfl rfl rfl rfl) ?_
                      refine d_pure [112, 108] [] rfl rfl (fun _ => gp_pass rfl rfl rfl rfl) ?_
                      refine d_pure [113, 108] [] rfl rfl (fun _ => gp_pass rfl rfl rfl rfl) ?_
                      refine d_pure [3, 108] [] rfl rfl (fun _ => gp_pass rfl rfl rfl rfl) ?_
                      refine d_pure [5, 108] [] rfl rfl (fun _ => gp_pass rfl rfl rfl rfl) ?_
                      refine d_pure [115, 116, 108] [] rfl rfl (fun _ => gp_pass rfl rfl rfl rfl) ?_
                      refine d_pure [117, 108] [] rfl rfl (fun _ => gp_pass rfl rfl rfl rfl) ?_
                      refine d_pure [118, 108] [] rfl rfl (fun _ => gp_pass rfl rfl rfl rfl) ?_
                      refine d_pure [119, 108] [] rfl rfl (fun _ => gp_pass rfl rfl rfl rfl) ?_
                      refine dwc 37 rfl rfl rfl ?_
                      refine dw1 38 rfl rfl ?_
                      refine o_pass rfl rfl rfl rfl ?_
                      refine o_nil ⟨rfl, ?_⟩
                      refine dw1 39 rfl rfl ?_
                      refine o_run rfl rfl rfl ?_
                      refine Pstep.go (st_pickF rfl rfl rfl rfl) ?_
                      refine o_nil ⟨rfl, ?_⟩
                      refine dw1 40 rfl rfl ?_
                      refine o_run rfl rfl rfl ?_
                      refine Pstep.go (st_move rfl rfl) ?_
                      refine o_nil ⟨rfl, ?_⟩
                      refine dws ?_
                      refine d_pure [3, 123] [] rfl rfl (fun _ => gp_pass rfl rfl rfl rfl) ?_
                      refine d_pure [8, 123] [] rfl rfl (fun _ => gp_pass rfl rfl rfl rfl) ?_
                      refine d_pure [124, 125, 123] [] rfl rfl (fun _ => gp_pass rfl rfl rfl rfl) ?_
                      refine d_pure [126, 123] [] rfl rfl (fun _ => gp_pass rfl rfl rfl rfl) ?_
                      refine d_pure [127, 123] [] rfl rfl (fun _ => gp_pass rfl rfl rfl rfl) ?_
                      refine d_pure [3, 123] [] rfl rfl (fun _ => gp_pass rfl rfl rfl rfl) ?_
                      refine d_pure [5, 123] [] rfl rfl (fun _ => gp_pass rfl rfl rfl rfl) ?_
                      refine d_pure [129, 130, 123] [] rfl rfl (fun _ => gp_pass rfl rfl rfl rfl) ?_
                      refine d_pure [131, 123] [] rfl rfl (fun _ => gp_pass rfl rfl rfl rfl) ?_
                      refine d_pure [132, 123] [] rfl rfl (fun _ => gp_pass rfl rfl rfl rfl) ?_
                      have hdk := hbd _ (List.getElem_mem hk1)
                      simp only [Mx] at hdk
                      refine d_pure [133, 123] [] rfl rfl (fun _ => gp_pass rfl rfl rfl rfl) ?_
                      refine dwc 51 rfl rfl rfl ?_
                      refine dw1 52 rfl rfl ?_
                      refine o_pass rfl rfl rfl rfl ?_
                      refine o_nil ⟨rfl, ?_⟩
                      refine dw1 53 rfl rfl ?_
                      refine o_run rfl rfl rfl ?_
                      refine Pstep.go (st_pickF rfl rfl rfl rfl) ?_
                      refine o_nil ⟨rfl, ?_⟩
                      refine dw1 54 rfl rfl ?_
                      refine Pstep.go (st_pickF rfl rfl rfl rfl) ?_
                      refine o_nil ⟨rfl, ?_⟩
                      refine dw1 55 rfl rfl ?_
                      refine Pstep.go (st_assign rfl rfl) ?_
                      refine o_nil ⟨rfl, ?_⟩
                      refine dwe ?_
                      refine a_region ?_
                      refine Pstep.go (st_move rfl rfl) ?_
                      refine Pstep.go (st_add rfl rfl (wrapS (m + 1) (by omega)) rfl) ?_
                      refine Pstep.go (st_assign rfl rfl) ?_
                      refine o_nil ?_
                      exact ⟨(m + 1, _, _), ⟨by show m + 1 ≤ _; omega, by show _ = ((L.take (m + 1)).map (bs L[k].1.acc.a)).sum; rw [sum_snoc hm1, ← hn]; unfold bs; simp_all, by show _ = (L.take (m + 1)).any (opp L[k]); rw [any_snoc hm1, ← hb]; unfold opp; first | (simp_all; done) | (show decide (L[m].2 = 0 - L[k].2) = _; simp_all)⟩, by show L.length - (m + 1) < L.length - m; omega, lep_of hF [] rfl (rfl) ⟨rfl, rfl, rfl, rfl, rfl, trivial⟩⟩
              · refine o_nil ⟨rfl, ?_⟩
                refine dws ?_
                refine d_pure [3, 60] [] rfl rfl (fun _ => gp_pass rfl rfl rfl rfl) ?_
                refine d_pure [8, 60] [] rfl rfl (fun _ => gp_pass rfl rfl rfl rfl) ?_
                refine d_pure [61, 62, 60] [] rfl rfl (fun _ => gp_pass rfl rfl rfl rfl) ?_
                refine d_pure [63, 60] [] rfl rfl (fun _ => gp_pass rfl rfl rfl rfl) ?_
                refine d_pure [64, 60] [] rfl rfl (fun _ => gp_pass rfl rfl rfl rfl) ?_
                refine d_pure [65, 60] [] rfl rfl (fun _ => gp_pass rfl rfl rfl rfl) ?_
                refine d_pure [66, 60] [] rfl rfl (fun _ => gp_pass rfl rfl rfl rfl) ?_
                refine d_pure [3, 60] [] rfl rfl (fun _ => gp_pass rfl rfl rfl rfl) ?_
                refine d_pure [5, 60] [] rfl rfl (fun _ => gp_pass rfl rfl rfl rfl) ?_
                refine d_pure [68, 69, 60] [] rfl rfl (fun _ => gp_pass rfl rfl rfl rfl) ?_
                refine d_pure [70, 60] [] rfl rfl (fun _ => gp_pass rfl rfl rfl rfl) ?_
                refine d_pure [71, 60] [] rfl rfl (fun _ => gp_pass rfl rfl rfl rfl) ?_
                refine d_pure [72, 60] [] rfl rfl (fun _ => gp_pass rfl rfl rfl rfl) ?_
                refine d_pure [73, 60] [] rfl rfl (fun _ => gp_pass rfl rfl rfl rfl) ?_
                refine dwc 22 rfl rfl rfl ?_
                refine dw1 23 rfl rfl ?_
                refine o_pass rfl rfl rfl rfl ?_
                refine o_nil ⟨rfl, ?_⟩
                refine dw1 24 rfl rfl ?_
                refine Pstep.go (st_pickF rfl rfl rfl rfl) ?_
                refine o_nil ⟨rfl, ?_⟩
                refine dwe ?_
                refine a_false rfl rfl ?_
                refine a_skip ?_
                refine a_drawn [[], [0], [0, 1], [0, 1], [0, 1, 2, 3], [0, 1, 2, 3, 4], [0, 1, 2, 3, 4, 5], [0, 1, 2, 3, 4, 5, 6], [0, 1, 2, 3, 4, 5, 6, 7], [0, 1, 2, 3, 4, 5, 6, 7, 8], [0, 1, 2, 3, 4, 5, 6, 7, 8, 9], [0, 1, 2, 3, 4, 5, 6, 7, 8, 9], [0, 1, 2, 3, 4, 5, 6, 7, 8, 9, 10, 11], [0, 1, 2, 3, 4, 5, 6, 7, 8, 9, 10, 11, 12], [0, 1, 2, 3, 4, 5, 6, 7, 8, 9, 10, 11, 12, 13], [0, 1, 2, 3, 4, 5, 6, 7, 8, 9, 10, 11, 12, 13, 14], [0, 1, 2, 3, 4, 5, 6, 7, 8, 9], [0, 1, 2, 3, 4, 5, 6, 7, 8, 9], [0, 1, 2, 3, 4, 5, 6, 7, 8, 9, 16, 17], [0, 1, 2, 3, 4, 5, 6, 7, 8, 9, 16, 17, 18], [0, 1, 2, 3, 4, 5, 6, 7, 8, 9, 16, 17, 18, 19], [0, 1, 2, 3, 4, 5, 6, 7, 8, 9, 16, 17, 18, 19, 20], [0, 1, 2, 3, 4, 5, 6, 7, 8, 9, 10, 11, 12, 13, 14, 15, 16, 17, 18, 19, 20, 21], [0, 1, 2, 3, 4, 5, 6, 7, 8, 9, 10, 11, 12, 13, 14, 15, 16, 17, 18, 19, 20, 21, 22], [0, 1, 2, 3, 4, 5, 6, 7, 8, 9, 10, 11, 12, 13, 14, 15, 16, 17, 18, 19, 20, 21, 22, 23], [0, 1, 2, 3, 4, 5, 6, 7, 8, 9, 10, 11, 12, 13, 14, 15, 16, 17, 18, 19, 20, 21, 22, 23, 24], [0, 1, 2, 3, 4, 5, 6, 7, 8, 9, 10, 11, 12, 13, 14, 15, 16, 17, 18, 19, 20, 21, 22, 23, 24], [0, 1, 2, 3, 4, 5, 6, 7, 8, 9, 10, 11, 12, 13, 14, 15, 16, 17, 18, 19, 20, 21, 22, 23, 24, 25, 26], [0, 1, 2, 3, 4, 5, 6, 7, 8, 9, 10, 11, 12, 13, 14, 15, 16, 17, 18, 19, 20, 21, 22, 23, 24, 25, 26, 27], [0, 1, 2, 3, 4, 5, 6, 7, 8, 9, 10, 11, 12, 13, 14, 15, 16, 17, 18, 19, 20, 21, 22, 23, 24, 25, 26, 27, 28], [0, 1, 2, 3, 4, 5, 6, 7, 8, 9, 10, 11, 12, 13, 14, 15, 16, 17, 18, 19, 20, 21, 22, 23, 24, 25, 26, 27, 28, 29], [0, 1, 2, 3, 4, 5, 6, 7, 8, 9, 10, 11, 12, 13, 14, 15, 16, 17, 18, 19, 20, 21, 22, 23, 24], [0, 1, 2, 3, 4, 5, 6, 7, 8, 9, 10, 11, 12, 13, 14, 15, 16, 17, 18, 19, 20, 21, 22, 23, 24], [0, 1, 2, 3, 4, 5, 6, 7, 8, 9, 10, 11, 12, 13, 14, 15, 16, 17, 18, 19, 20, 21, 22, 23, 24, 31, 32], [0, 1, 2, 3, 4, 5, 6, 7, 8, 9, 10, 11, 12, 13, 14, 15, 16, 17, 18, 19, 20, 21, 22, 23, 24, 31, 32, 33], [0, 1, 2, 3, 4, 5, 6, 7, 8, 9, 10, 11, 12, 13, 14, 15, 16, 17, 18, 19, 20, 21, 22, 23, 24, 31, 32, 33, 34], [0, 1, 2, 3, 4, 5, 6, 7, 8, 9, 10, 11, 12, 13, 14, 15, 16, 17, 18, 19, 20, 21, 22, 23, 24, 31, 32, 33, 34, 35], [0, 1, 2, 3, 4, 5, 6, 7, 8, 9, 10, 11, 12, 13, 14, 15, 16, 17, 18, 19, 20, 21, 22, 23, 24, 25, 26, 27, 28, 29, 30, 31, 32, 33, 34, 35, 36], [0, 1, 2, 3, 4, 5, 6, 7, 8, 9, 10, 11, 12, 13, 14, 15, 16, 17, 18, 19, 20, 21, 22, 23, 24, 25, 26, 27, 28, 29, 30, 31, 32, 33, 34, 35, 36, 37], [0, 1, 2, 3, 4, 5, 6, 7, 8, 9, 10, 11, 12, 13, 14, 15, 16, 17, 18, 19, 20, 21, 22, 23, 24, 25, 26, 27, 28, 29, 30, 31, 32, 33, 34, 35, 36, 37, 38], [0, 1, 2, 3, 4, 5, 6, 7, 8, 9, 10, 11, 12, 13, 14, 15, 16, 17, 18, 19, 20, 21, 22, 23, 24, 25, 26, 27, 28, 29, 30, 31, 32, 33, 34, 35, 36, 37, 38, 39], [0, 1, 2, 3, 4, 5, 6, 7, 8, 9, 10, 11, 12, 13, 14, 15, 16, 17, 18, 19, 20, 21, 22, 23, 24, 25, 26, 27, 28, 29, 30, 31, 32, 33, 34, 35, 36, 37, 38, 39], [0, 1, 2, 3, 4, 5, 6, 7, 8, 9, 10, 11, 12, 13, 14, 15, 16, 17, 18, 19, 20, 21, 22, 23, 24, 25, 26, 27, 28, 29, 30, 31, 32, 33, 34, 35, 36, 37, 38, 39, 40, 41], [0, 1, 2, 3, 4, 5, 6, 7, 8, 9, 10, 11, 12, 13, 14, 15, 16, 17, 18, 19, 20, 21, 22, 23, 24, 25, 26, 27, 28, 29, 30, 31, 32, 33, 34, 35, 36, 37, 38, 39, 40, 41, 42], [0, 1, 2, 3, 4, 5, 6, 7, 8, 9, 10, 11, 12, 13, 14, 15, 16, 17, 18, 19, 20, 21, 22, 23, 24, 25, 26, 27, 28, 29, 30, 31, 32, 33, 34, 35, 36, 37, 38, 39, 40, 41, 42, 43], [0, 1, 2, 3, 4, 5, 6, 7, 8, 9, 10, 11, 12, 13, 14, 15, 16, 17, 18, 19, 20, 21, 22, 23, 24, 25, 26, 27, 28, 29, 30, 31, 32, 33, 34, 35, 36, 37, 38, 39], [0, 1, 2, 3, 4, 5, 6, 7, 8, 9, 10, 11, 12, 13, 14, 15, 16, 17, 18, 19, 20, 21, 22, 23, 24, 25, 26, 27, 28, 29, 30, 31, 32, 33, 34, 35, 36, 37, 38, 39], [0, 1, 2, 3, 4, 5, 6, 7, 8, 9, 10, 11, 12, 13, 14, 15, 16, 17, 18, 19, 20, 21, 22, 23, 24, 25, 26, 27, 28, 29, 30, 31, 32, 33, 34, 35, 36, 37, 38, 39, 45, 46], [0, 1, 2, 3, 4, 5, 6, 7, 8, 9, 10, 11, 12, 13, 14, 15, 16, 17, 18, 19, 20, 21, 22, 23, 24, 25, 26, 27, 28, 29, 30, 31, 32, 33, 34, 35, 36, 37, 38, 39, 45, 46, 47], [0, 1, 2, 3, 4, 5, 6, 7, 8, 9, 10, 11, 12, 13, 14, 15, 16, 17, 18, 19, 20, 21, 22, 23, 24, 25, 26, 27, 28, 29, 30, 31, 32, 33, 34, 35, 36, 37, 38, 39, 45, 46, 47, 48], [0, 1, 2, 3, 4, 5, 6, 7, 8, 9, 10, 11, 12, 13, 14, 15, 16, 17, 18, 19, 20, 21, 22, 23, 24, 25, 26, 27, 28, 29, 30, 31, 32, 33, 34, 35, 36, 37, 38, 39, 45, 46, 47, 48, 49], [0, 1, 2, 3, 4, 5, 6, 7, 8, 9, 10, 11, 12, 13, 14, 15, 16, 17, 18, 19, 20, 21, 22, 23, 24, 25, 26, 27, 28, 29, 30, 31, 32, 33, 34, 35, 36, 37, 38, 39, 40, 41, 42, 43, 44, 45, 46, 47, 48, 49, 50], [0, 1, 2, 3, 4, 5, 6, 7, 8, 9, 10, 11, 12, 13, 14, 15, 16, 17, 18, 19, 20, 21, 22, 23, 24, 25, 26, 27, 28, 29, 30, 31, 32, 33, 34, 35, 36, 37, 38, 39, 40, 41, 42, 43, 44, 45, 46, 47, 48, 49, 50, 51], [0, 1, 2, 3, 4, 5, 6, 7, 8, 9, 10, 11, 12, 13, 14, 15, 16, 17, 18, 19, 20, 21, 22, 23, 24, 25, 26, 27, 28, 29, 30, 31, 32, 33, 34, 35, 36, 37, 38, 39, 40, 41, 42, 43, 44, 45, 46, 47, 48, 49, 50, 51, 52], [0, 1, 2, 3, 4, 5, 6, 7, 8, 9, 10, 11, 12, 13, 14, 15, 16, 17, 18, 19, 20, 21, 22, 23, 24, 25, 26, 27, 28, 29, 30, 31, 32, 33, 34, 35, 36, 37, 38, 39, 40, 41, 42, 43, 44, 45, 46, 47, 48, 49, 50, 51, 52, 53]] mixed rfl ?_
                refine dw1 1 rfl rfl ?_
                refine Pstep.go (st_move rfl rfl) ?_
                refine o_nil ⟨rfl, ?_⟩
                refine dw1 2 rfl rfl ?_
                refine Pstep.go (st_move rfl rfl) ?_
                refine o_splitB 85 rfl (fun h85 => ?_) (fun h85 => ?_)
                · refine o_nil ⟨rfl, ?_⟩
                  refine dws ?_
                  refine d_pure [3, 85] [] rfl rfl (fun _ => gp_pass rfl rfl rfl rfl) ?_
                  refine d_pure [8, 85] [] rfl rfl (fun _ => gp_pass rfl rfl rfl rfl) ?_
                  refine dwc 4 rfl rfl rfl ?_
                  refine dw1 5 rfl rfl ?_
                  refine o_pass rfl rfl rfl rfl ?_
                  refine o_nil ⟨rfl, ?_⟩
                  refine dw1 6 rfl rfl ?_
                  refine o_pass rfl rfl rfl rfl ?_
                  refine o_nil ⟨rfl, ?_⟩
                  refine dw1 7 rfl rfl ?_
                  refine o_pass rfl rfl rfl rfl ?_
                  refine o_nil ⟨rfl, ?_⟩
                  refine dw1 8 rfl rfl ?_
                  refine o_pass rfl rfl rfl rfl ?_
                  refine o_nil ⟨rfl, ?_⟩
                  refine dw1 9 rfl rfl ?_
                  refine o_pass rfl rfl rfl rfl ?_
                  refine o_nil ⟨rfl, ?_⟩
                  refine dw1 10 rfl rfl ?_
                  refine o_pass rfl rfl rfl rfl ?_
                  refine o_nil ⟨rfl, ?_⟩
                  refine dws ?_
                  refine d_pure [3, 93] [] rfl rfl (fun _ => gp_passU rfl rfl rfl) ?_
                  refine d_pure [8, 93] [] rfl rfl (fun _ => gp_passU rfl rfl rfl) ?_
                  refine d_pure [94, 95, 93] [] rfl rfl (fun _ => gp_passU rfl rfl rfl) ?_
                  refine d_pure [96, 93] [] rfl rfl (fun _ => gp_passU rfl rfl rfl) ?_
                  refine d_pure [97, 93] [] rfl rfl (fun _ => gp_passU rfl rfl rfl) ?_
                  refine d_pure [98, 93] [] rfl rfl (fun _ => gp_passU rfl rfl rfl) ?_
                  refine d_pure [3, 93] [] rfl rfl (fun _ => gp_passU rfl rfl rfl) ?_
                  refine d_pure [5, 93] [] rfl rfl (fun _ => gp_passU rfl rfl rfl) ?_
                  refine d_pure [100, 101, 93] [] rfl rfl (fun _ => gp_passU rfl rfl rfl) ?_
                  refine d_pure [102, 93] [] rfl rfl (fun _ => gp_passU rfl rfl rfl) ?_
                  refine d_pure [103, 93] [] rfl rfl (fun _ => gp_passU rfl rfl rfl) ?_
                  refine d_pure [104, 93] [] rfl rfl (fun _ => gp_passU rfl rfl rfl) ?_
                  refine dwc 22 rfl rfl rfl ?_
                  refine dw1 23 rfl rfl ?_
                  refine o_passU rfl rfl rfl ?_
                  refine o_nil ⟨rfl, ?_⟩
                  refine dw1 24 rfl rfl ?_
                  refine o_pass rfl rfl rfl rfl ?_
                  refine o_nil ⟨rfl, ?_⟩
                  refine dw1 25 rfl rfl ?_
                  refine o_pass rfl rfl rfl rfl ?_
                  refine o_nil ⟨rfl, ?_⟩
                  refine dws ?_
                  refine d_pure [3, 108] [] rfl rfl (fun _ => gp_passU rfl rfl rfl) ?_
                  refine d_pure [8, 108] [] rfl rfl (fun _ => gp_passU rfl rfl rfl) ?_
                  refine d_pure [109, 110, 108] [] rfl rfl (fun _ => gp_passU rfl rfl rfl) ?_
                  refine d_pure [111, 108] [] rfl rfl (fun _ => gp_passU rfl rfl rfl) ?_
                  refine d_pure [112, 108] [] rfl rfl (fun _ => gp_passU rfl rfl rfl) ?_
                  refine d_pure [113, 108] [] rfl rfl (fun _ => gp_passU rfl rfl rfl) ?_
                  refine d_pure [3, 108] [] rfl rfl (fun _ => gp_passU rfl rfl rfl) ?_
                  refine d_pure [5, 108] [] rfl rfl (fun _ => gp_passU rfl rfl rfl) ?_
                  refine d_pure [115, 116, 108] [] rfl rfl (fun _ => gp_passU rfl rfl rfl) ?_
                  refine d_pure [117, 108] [] rfl rfl (fun _ => gp_passU rfl rfl rfl) ?_
                  refine d_pure [118, 108] [] rfl rfl (fun _ => gp_passU rfl rfl rfl) ?_
                  refine d_pure [119, 108] [] rfl rfl (fun _ => gp_passU rfl rfl rfl) ?_
                  refine dwc 37 rfl rfl rfl ?_
                  refine dw1 38 rfl rfl ?_
                  refine o_passU rfl rfl rfl ?_
                  refine o_nil ⟨rfl, ?_⟩
                  refine dw1 39 rfl rfl ?_
                  refine o_pass rfl rfl rfl rfl ?_
                  refine o_nil ⟨rfl, ?_⟩
                  refine dw1 40 rfl rfl ?_
                  refine o_pass rfl rfl rfl rfl ?_
                  refine o_nil ⟨rfl, ?_⟩
                  refine dws ?_
                  refine d_pure [3, 123] [] rfl rfl (fun _ => gp_passU rfl rfl rfl) ?_
                  refine d_pure [8, 123] [] rfl rfl (fun _ => gp_passU rfl rfl rfl) ?_
                  refine d_pure [124, 125, 123] [] rfl rfl (fun _ => gp_passU rfl rfl rfl) ?_
                  refine d_pure [126, 123] [] rfl rfl (fun _ => gp_passU rfl rfl rfl) ?_
                  refine d_pure [127, 123] [] rfl rfl (fun _ => gp_passU rfl rfl rfl) ?_
                  refine d_pure [3, 123] [] rfl rfl (fun _ => gp_passU rfl rfl rfl) ?_
                  refine d_pure [5, 123] [] rfl rfl (fun _ => gp_passU rfl rfl rfl) ?_
                  refine d_pure [129, 130, 123] [] rfl rfl (fun _ => gp_passU rfl rfl rfl) ?_
                  refine d_pure [131, 123] [] rfl rfl (fun _ => gp_passU rfl rfl rfl) ?_
                  refine d_pure [132, 123] [] rfl rfl (fun _ => gp_passU rfl rfl rfl) ?_
                  have hdk := hbd _ (List.getElem_mem hk1)
                  simp only [Mx] at hdk
                  refine d_pure [133, 123] [] rfl rfl (fun _ => gp_passU rfl rfl rfl) ?_
                  refine dwc 51 rfl rfl rfl ?_
                  refine dw1 52 rfl rfl ?_
                  refine o_passU rfl rfl rfl ?_
                  refine o_nil ⟨rfl, ?_⟩
                  refine dw1 53 rfl rfl ?_
                  refine o_pass rfl rfl rfl rfl ?_
                  refine o_nil ⟨rfl, ?_⟩
                  refine dw1 54 rfl rfl ?_
                  refine Pstep.go (st_pickT rfl rfl rfl rfl) ?_
                  refine o_nil ⟨rfl, ?_⟩
                  refine dw1 55 rfl rfl ?_
                  refine Pstep.go (st_assign rfl rfl) ?_
                  refine o_nil ⟨rfl, ?_⟩
                  refine dwe ?_
                  refine a_region ?_
                  refine Pstep.go (st_move rfl rfl) ?_
                  refine Pstep.go (st_add rfl rfl (wrapS (m + 1) (by omega)) rfl) ?_
                  refine Pstep.go (st_assign rfl rfl) ?_
                  refine o_nil ?_
                  exact ⟨(m + 1, _, _), ⟨by show m + 1 ≤ _; omega, by show _ = ((L.take (m + 1)).map (bs L[k].1.acc.a)).sum; rw [sum_snoc hm1, ← hn]; unfold bs; simp_all, by show _ = (L.take (m + 1)).any (opp L[k]); rw [any_snoc hm1, ← hb]; unfold opp; first | (simp_all; done) | (show decide (L[m].2 = 0 - L[k].2) = _; simp_all)⟩, by show L.length - (m + 1) < L.length - m; omega, lep_of hF [] rfl (rfl) ⟨rfl, rfl, rfl, rfl, rfl, trivial⟩⟩
                · refine o_nil ⟨rfl, ?_⟩
                  refine dws ?_
                  refine d_pure [3, 85] [] rfl rfl (fun _ => gp_run rfl rfl rfl (st_move rfl rfl)) ?_
                  refine d_pure [8, 85] [] rfl rfl (fun _ => gp_run rfl rfl rfl (st_move rfl rfl)) ?_
                  refine dwc 4 rfl rfl rfl ?_
                  refine dw1 5 rfl rfl ?_
                  refine o_run rfl rfl rfl ?_
                  refine Pstep.go (st_indexD (m) rfl rfl (rfl) (getm hm1) Try.underlying37 rfl sz45 rfl) ?_
                  refine o_nil ⟨rfl, ?_⟩
                  refine dw1 6 rfl rfl ?_
                  refine o_run rfl rfl rfl ?_
                  refine Pstep.go (st_fieldFS rfl fi45_0 rfl rfl rfl) ?_
                  refine o_nil ⟨rfl, ?_⟩
                  refine dw1 7 rfl rfl ?_
                  refine o_run rfl rfl rfl ?_
                  refine Pstep.go (st_fieldF1 rfl fi43_0 rfl rfl rfl) ?_
                  refine o_nil ⟨rfl, ?_⟩
                  refine dw1 8 rfl rfl ?_
                  refine o_run rfl rfl rfl ?_
                  refine Pstep.go (st_loadD1 rfl rfl on3 rfl) ?_
                  refine o_nil ⟨rfl, ?_⟩
                  refine dw1 9 rfl rfl ?_
                  refine o_run rfl rfl rfl ?_
                  refine Pstep.go (st_eql rfl rfl rfl) ?_
                  refine o_nil ⟨rfl, ?_⟩
                  refine dw1 10 rfl rfl ?_
                  refine o_run rfl rfl rfl ?_
                  refine Pstep.go (st_move rfl rfl) ?_
                  refine o_splitP 93 rfl (fun h93 => ?_) (fun h93 => ?_)
                  · refine o_nil ⟨rfl, ?_⟩
                    refine dws ?_
                    refine d_pure [3, 93] [] rfl rfl (fun _ => gp_run rfl rfl rfl (st_move rfl rfl)) ?_
                    refine d_pure [8, 93] [] rfl rfl (fun _ => gp_run rfl rfl rfl (st_move rfl rfl)) ?_
                    refine d_pure [94, 95, 93] [] rfl rfl (fun _ => gp_run rfl rfl rfl (st_indexD (m) rfl rfl (rfl) (getm hm1) Try.underlying37 rfl sz45 rfl)) ?_
                    refine d_pure [96, 93] [] rfl rfl (fun _ => gp_run rfl rfl rfl (st_fieldFS rfl fi45_0 rfl rfl rfl)) ?_
                    refine d_pure [97, 93] [] rfl rfl (fun _ => gp_run rfl rfl rfl (st_fieldF1 rfl fi43_2 rfl rfl rfl)) ?_
                    refine d_pure [98, 93] [] rfl rfl (fun _ => gp_run rfl rfl rfl (st_loadD1 rfl rfl on9 rfl)) ?_
                    refine d_pure [3, 93] [] rfl rfl (fun _ => gp_run rfl rfl rfl (st_move rfl rfl)) ?_
                    refine d_pure [5, 93] [] rfl rfl (fun _ => gp_run rfl rfl rfl (st_move rfl rfl)) ?_
                    refine d_pure [100, 101, 93] [] rfl rfl (fun _ => gp_run rfl rfl rfl (st_indexD (k) rfl rfl (rfl) (getm hk1) Try.underlying37 rfl sz45 rfl)) ?_
                    refine d_pure [102, 93] [] rfl rfl (fun _ => gp_run rfl rfl rfl (st_fieldFS rfl fi45_0 rfl rfl rfl)) ?_
                    refine d_pure [103, 93] [] rfl rfl (fun _ => gp_run rfl rfl rfl (st_fieldF1 rfl fi43_3 rfl rfl rfl)) ?_
                    refine d_pure [104, 93] [] rfl rfl (fun _ => gp_run rfl rfl rfl (st_loadD1 rfl rfl on9 rfl)) ?_
                    refine dwc 22 rfl rfl rfl ?_
                    refine dw1 23 rfl rfl ?_
                    refine o_run rfl rfl rfl ?_
                    refine Pstep.go (st_eqlSL rfl rfl rfl) ?_
                    refine o_nil ⟨rfl, ?_⟩
                    refine dw1 24 rfl rfl ?_
                    refine o_run rfl rfl rfl ?_
                    refine Pstep.go (st_pickT rfl rfl rfl rfl) ?_
                    refine o_nil ⟨rfl, ?_⟩
                    refine dw1 25 rfl rfl ?_
                    refine o_run rfl rfl rfl ?_
                    refine Pstep.go (st_move rfl rfl) ?_
                    refine o_splitP 108 rfl (fun h108 => ?_) (fun h108 => ?_)
                    · refine o_nil ⟨rfl, ?_⟩
                      refine dws ?_
                      refine d_pure [3, 108] [] rfl rfl (fun _ => gp_run rfl rfl rfl (st_move rfl rfl)) ?_
                      refine d_pure [8, 108] [] rfl rfl (fun _ => gp_run rfl rfl rfl (st_move rfl rfl)) ?_
                      refine d_pure [109, 110, 108] [] rfl rfl (fun _ => gp_run rfl rfl rfl (st_indexD (m) rfl rfl (rfl) (getm hm1) Try.underlying37 rfl sz45 rfl)) ?_
                      refine d_pure [111, 108] [] rfl rfl (fun _ => gp_run rfl rfl rfl (st_fieldFS rfl fi45_0 rfl rfl rfl)) ?_
                      refine d_pure [112, 108] [] rfl rfl (fun _ => gp_run rfl rfl rfl (st_fieldF1 rfl fi43_3 rfl rfl rfl)) ?_
                      refine d_pure [113, 108] [] rfl rfl (fun _ => gp_run rfl rfl rfl (st_loadD1 rfl rfl on9 rfl)) ?_
                      refine d_pure [3, 108] [] rfl rfl (fun _ => gp_run rfl rfl rfl (st_move rfl rfl)) ?_
                      refine d_pure [5, 108] [] rfl rfl (fun _ => gp_run rfl rfl rfl (st_move rfl rfl)) ?_
                      refine d_pure [115, 116, 108] [] rfl rfl (fun _ => gp_run rfl rfl rfl (st_indexD (k) rfl rfl (rfl) (getm hk1) Try.underlying37 rfl sz45 rfl)) ?_
                      refine d_pure [117, 108] [] rfl rfl (fun _ => gp_run rfl rfl rfl (st_fieldFS rfl fi45_0 rfl rfl rfl)) ?_
                      refine d_pure [118, 108] [] rfl rfl (fun _ => gp_run rfl rfl rfl (st_fieldF1 rfl fi43_2 rfl rfl rfl)) ?_
                      refine d_pure [119, 108] [] rfl rfl (fun _ => gp_run rfl rfl rfl (st_loadD1 rfl rfl on9 rfl)) ?_
                      refine dwc 37 rfl rfl rfl ?_
                      refine dw1 38 rfl rfl ?_
                      refine o_run rfl rfl rfl ?_
                      refine Pstep.go (st_eqlSL rfl rfl rfl) ?_
                      refine o_nil ⟨rfl, ?_⟩
                      refine dw1 39 rfl rfl ?_
                      refine o_run rfl rfl rfl ?_
                      refine Pstep.go (st_pickT rfl rfl rfl rfl) ?_
                      refine o_nil ⟨rfl, ?_⟩
                      refine dw1 40 rfl rfl ?_
                      refine o_run rfl rfl rfl ?_
                      refine Pstep.go (st_move rfl rfl) ?_
                      refine o_splitP 123 rfl (fun h123 => ?_) (fun h123 => ?_)
                      · refine o_nil ⟨rfl, ?_⟩
                        refine dws ?_
                        refine d_pure [3, 123] [] rfl rfl (fun _ => gp_run rfl rfl rfl (st_move rfl rfl)) ?_
                        refine d_pure [8, 123] [] rfl rfl (fun _ => gp_run rfl rfl rfl (st_move rfl rfl)) ?_
                        refine d_pure [124, 125, 123] [] rfl rfl (fun _ => gp_run rfl rfl rfl (st_indexD (m) rfl rfl (rfl) (getm hm1) Try.underlying37 rfl sz45 rfl)) ?_
                        refine d_pure [126, 123] [] rfl rfl (fun _ => gp_run rfl rfl rfl (st_fieldF1 rfl fi45_1 rfl rfl rfl)) ?_
                        refine d_pure [127, 123] [] rfl rfl (fun _ => gp_run rfl rfl rfl (st_loadD1 rfl rfl on2 rfl)) ?_
                        refine d_pure [3, 123] [] rfl rfl (fun _ => gp_run rfl rfl rfl (st_move rfl rfl)) ?_
                        refine d_pure [5, 123] [] rfl rfl (fun _ => gp_run rfl rfl rfl (st_move rfl rfl)) ?_
                        refine d_pure [129, 130, 123] [] rfl rfl (fun _ => gp_run rfl rfl rfl (st_indexD (k) rfl rfl (rfl) (getm hk1) Try.underlying37 rfl sz45 rfl)) ?_
                        refine d_pure [131, 123] [] rfl rfl (fun _ => gp_run rfl rfl rfl (st_fieldF1 rfl fi45_1 rfl rfl rfl)) ?_
                        refine d_pure [132, 123] [] rfl rfl (fun _ => gp_run rfl rfl rfl (st_loadD1 rfl rfl on2 rfl)) ?_
                        have hdk := hbd _ (List.getElem_mem hk1)
                        simp only [Mx] at hdk
                        refine d_pure [133, 123] [] rfl rfl (fun _ => gp_run rfl rfl rfl (st_neg rfl (IntWalk.i64_in _ (by omega)) rfl)) ?_
                        refine dwc 51 rfl rfl rfl ?_
                        refine dw1 52 rfl rfl ?_
                        refine o_run rfl rfl rfl ?_
                        refine Pstep.go (st_eql rfl rfl rfl) ?_
                        refine o_nil ⟨rfl, ?_⟩
                        refine dw1 53 rfl rfl ?_
                        refine o_run rfl rfl rfl ?_
                        refine Pstep.go (st_pickT rfl rfl rfl rfl) ?_
                        refine o_nil ⟨rfl, ?_⟩
                        refine dw1 54 rfl rfl ?_
                        refine Pstep.go (st_pickF rfl rfl rfl rfl) ?_
                        refine o_nil ⟨rfl, ?_⟩
                        refine dw1 55 rfl rfl ?_
                        refine Pstep.go (st_assign rfl rfl) ?_
                        refine o_nil ⟨rfl, ?_⟩
                        refine dwe ?_
                        refine a_region ?_
                        refine Pstep.go (st_move rfl rfl) ?_
                        refine Pstep.go (st_add rfl rfl (wrapS (m + 1) (by omega)) rfl) ?_
                        refine Pstep.go (st_assign rfl rfl) ?_
                        refine o_nil ?_
                        exact ⟨(m + 1, _, _), ⟨by show m + 1 ≤ _; omega, by show _ = ((L.take (m + 1)).map (bs L[k].1.acc.a)).sum; rw [sum_snoc hm1, ← hn]; unfold bs; simp_all, by show _ = (L.take (m + 1)).any (opp L[k]); rw [any_snoc hm1, ← hb]; unfold opp; first | (simp_all; done) | (show decide (L[m].2 = 0 - L[k].2) = _; simp_all)⟩, by show L.length - (m + 1) < L.length - m; omega, lep_of hF [] rfl (rfl) ⟨rfl, rfl, rfl, rfl, rfl, trivial⟩⟩
                      · refine o_nil ⟨rfl, ?_⟩
                        refine dws ?_
                        refine d_pure [3, 123] [] rfl rfl (fun _ => gp_pass rfl rfl rfl rfl) ?_
                        refine d_pure [8, 123] [] rfl rfl (fun _ => gp_pass rfl rfl rfl rfl) ?_
                        refine d_pure [124, 125, 123] [] rfl rfl (fun _ => gp_pass rfl rfl rfl rfl) ?_
                        refine d_pure [126, 123] [] rfl rfl (fun _ => gp_pass rfl rfl rfl rfl) ?_
                        refine d_pure [127, 123] [] rfl rfl (fun _ => gp_pass rfl rfl rfl rfl) ?_
                        refine d_pure [3, 123] [] rfl rfl (fun _ => gp_pass rfl rfl rfl rfl) ?_
                        refine d_pure [5, 123] [] rfl rfl (fun _ => gp_pass rfl rfl rfl rfl) ?_
                        refine d_pure [129, 130, 123] [] rfl rfl (fun _ => gp_pass rfl rfl rfl rfl) ?_
                        refine d_pure [131, 123] [] rfl rfl (fun _ => gp_pass rfl rfl rfl rfl) ?_
                        refine d_pure [132, 123] [] rfl rfl (fun _ => gp_pass rfl rfl rfl rfl) ?_
                        have hdk := hbd _ (List.getElem_mem hk1)
                        simp only [Mx] at hdk
                        refine d_pure [133, 123] [] rfl rfl (fun _ => gp_pass rfl rfl rfl rfl) ?_
                        refine dwc 51 rfl rfl rfl ?_
                        refine dw1 52 rfl rfl ?_
                        refine o_pass rfl rfl rfl rfl ?_
                        refine o_nil ⟨rfl, ?_⟩
                        refine dw1 53 rfl rfl ?_
                        refine o_run rfl rfl rfl ?_
                        refine Pstep.go (st_pickF rfl rfl rfl rfl) ?_
                        refine o_nil ⟨rfl, ?_⟩
                        refine dw1 54 rfl rfl ?_
                        refine Pstep.go (st_pickF rfl rfl rfl rfl) ?_
                        refine o_nil ⟨rfl, ?_⟩
                        refine dw1 55 rfl rfl ?_
                        refine Pstep.go (st_assign rfl rfl) ?_
                        refine o_nil ⟨rfl, ?_⟩
                        refine dwe ?_
                        refine a_region ?_
                        refine Pstep.go (st_move rfl rfl) ?_
                        refine Pstep.go (st_add rfl rfl (wrapS (m + 1) (by omega)) rfl) ?_
                        refine Pstep.go (st_assign rfl rfl) ?_
                        refine o_nil ?_
                        exact ⟨(m + 1, _, _), ⟨by show m + 1 ≤ _; omega, by show _ = ((L.take (m + 1)).map (bs L[k].1.acc.a)).sum; rw [sum_snoc hm1, ← hn]; unfold bs; simp_all, by show _ = (L.take (m + 1)).any (opp L[k]); rw [any_snoc hm1, ← hb]; unfold opp; first | (simp_all; done) | (show decide (L[m].2 = 0 - L[k].2) = _; simp_all)⟩, by show L.length - (m + 1) < L.length - m; omega, lep_of hF [] rfl (rfl) ⟨rfl, rfl, rfl, rfl, rfl, trivial⟩⟩
                    · refine o_nil ⟨rfl, ?_⟩
                      refine dws ?_
                      refine d_pure [3, 108] [] rfl rfl (fun _ => gp_pass rfl rfl rfl rfl) ?_
                      refine d_pure [8, 108] [] rfl rfl (fun _ => gp_pass rfl rfl rfl rfl) ?_
                      refine d_pure [109, 110, 108] [] rfl rfl (fun _ => gp_pass rfl rfl rfl rfl) ?_
                      refine d_pure [111, 108] [] rfl rfl (fun _ => gp_pass rfl rfl rfl rfl) ?_
                      refine d_pure [112, 108] [] rfl rfl (fun _ => gp_pass rfl rfl rfl rfl) ?_
                      refine d_pure [113, 108] [] rfl rfl (fun _ => gp_pass rfl rfl rfl rfl) ?_
                      refine d_pure [3, 108] [] rfl rfl (fun _ => gp_pass rfl rfl rfl rfl) ?_
                      refine d_pure [5, 108] [] rfl rfl (fun _ => gp_pass rfl rfl rfl rfl) ?_
                      refine d_pure [115, 116, 108] [] rfl rfl (fun _ => gp_pass rfl rfl rfl rfl) ?_
                      refine d_pure [117, 108] [] rfl rfl (fun _ => gp_pass rfl rfl rfl rfl) ?_
                      refine d_pure [118, 108] [] rfl rfl (fun _ => gp_pass rfl rfl rfl rfl) ?_
                      refine d_pure [119, 108] [] rfl rfl (fun _ => gp_pass rfl rfl rfl rfl) ?_
                      refine dwc 37 rfl rfl rfl ?_
                      refine dw1 38 rfl rfl ?_
                      refine o_pass rfl rfl rfl rfl ?_
                      refine o_nil ⟨rfl, ?_⟩
                      refine dw1 39 rfl rfl ?_
                      refine o_run rfl rfl rfl ?_
                      refine Pstep.go (st_pickF rfl rfl rfl rfl) ?_
                      refine o_nil ⟨rfl, ?_⟩
                      refine dw1 40 rfl rfl ?_
                      refine o_run rfl rfl rfl ?_
                      refine Pstep.go (st_move rfl rfl) ?_
                      refine o_nil ⟨rfl, ?_⟩
                      refine dws ?_
                      refine d_pure [3, 123] [] rfl rfl (fun _ => gp_pass rfl rfl rfl rfl) ?_
                      refine d_pure [8, 123] [] rfl rfl (fun _ => gp_pass rfl rfl rfl rfl) ?_
                      refine d_pure [124, 125, 123] [] rfl rfl (fun _ => gp_pass rfl rfl rfl rfl) ?_
                      refine d_pure [126, 123] [] rfl rfl (fun _ => gp_pass rfl rfl rfl rfl) ?_
                      refine d_pure [127, 123] [] rfl rfl (fun _ => gp_pass rfl rfl rfl rfl) ?_
                      refine d_pure [3, 123] [] rfl rfl (fun _ => gp_pass rfl rfl rfl rfl) ?_
                      refine d_pure [5, 123] [] rfl rfl (fun _ => gp_pass rfl rfl rfl rfl) ?_
                      refine d_pure [129, 130, 123] [] rfl rfl (fun _ => gp_pass rfl rfl rfl rfl) ?_
                      refine d_pure [131, 123] [] rfl rfl (fun _ => gp_pass rfl rfl rfl rfl) ?_
                      refine d_pure [132, 123] [] rfl rfl (fun _ => gp_pass rfl rfl rfl rfl) ?_
                      have hdk := hbd _ (List.getElem_mem hk1)
                      simp only [Mx] at hdk
                      refine d_pure [133, 123] [] rfl rfl (fun _ => gp_pass rfl rfl rfl rfl) ?_
                      refine dwc 51 rfl rfl rfl ?_
                      refine dw1 52 rfl rfl ?_
                      refine o_pass rfl rfl rfl rfl ?_
                      refine o_nil ⟨rfl, ?_⟩
                      refine dw1 53 rfl rfl ?_
                      refine o_run rfl rfl rfl ?_
                      refine Pstep.go (st_pickF rfl rfl rfl rfl) ?_
                      refine o_nil ⟨rfl, ?_⟩
                      refine dw1 54 rfl rfl ?_
                      refine Pstep.go (st_pickF rfl rfl rfl rfl) ?_
                      refine o_nil ⟨rfl, ?_⟩
                      refine dw1 55 rfl rfl ?_
                      refine Pstep.go (st_assign rfl rfl) ?_
                      refine o_nil ⟨rfl, ?_⟩
                      refine dwe ?_
                      refine a_region ?_
                      refine Pstep.go (st_move rfl rfl) ?_
                      refine Pstep.go (st_add rfl rfl (wrapS (m + 1) (by omega)) rfl) ?_
                      refine Pstep.go (st_assign rfl rfl) ?_
                      refine o_nil ?_
                      exact ⟨(m + 1, _, _), ⟨by show m + 1 ≤ _; omega, by show _ = ((L.take (m + 1)).map (bs L[k].1.acc.a)).sum; rw [sum_snoc hm1, ← hn]; unfold bs; simp_all, by show _ = (L.take (m + 1)).any (opp L[k]); rw [any_snoc hm1, ← hb]; unfold opp; first | (simp_all; done) | (show decide (L[m].2 = 0 - L[k].2) = _; simp_all)⟩, by show L.length - (m + 1) < L.length - m; omega, lep_of hF [] rfl (rfl) ⟨rfl, rfl, rfl, rfl, rfl, trivial⟩⟩
                  · refine o_nil ⟨rfl, ?_⟩
                    refine dws ?_
                    refine d_pure [3, 93] [] rfl rfl (fun _ => gp_pass rfl rfl rfl rfl) ?_
                    refine d_pure [8, 93] [] rfl rfl (fun _ => gp_pass rfl rfl rfl rfl) ?_
                    refine d_pure [94, 95, 93] [] rfl rfl (fun _ => gp_pass rfl rfl rfl rfl) ?_
                    refine d_pure [96, 93] [] rfl rfl (fun _ => gp_pass rfl rfl rfl rfl) ?_
                    refine d_pure [97, 93] [] rfl rfl (fun _ => gp_pass rfl rfl rfl rfl) ?_
                    refine d_pure [98, 93] [] rfl rfl (fun _ => gp_pass rfl rfl rfl rfl) ?_
                    refine d_pure [3, 93] [] rfl rfl (fun _ => gp_pass rfl rfl rfl rfl) ?_
                    refine d_pure [5, 93] [] rfl rfl (fun _ => gp_pass rfl rfl rfl rfl) ?_
                    refine d_pure [100, 101, 93] [] rfl rfl (fun _ => gp_pass rfl rfl rfl rfl) ?_
                    refine d_pure [102, 93] [] rfl rfl (fun _ => gp_pass rfl rfl rfl rfl) ?_
                    refine d_pure [103, 93] [] rfl rfl (fun _ => gp_pass rfl rfl rfl rfl) ?_
                    refine d_pure [104, 93] [] rfl rfl (fun _ => gp_pass rfl rfl rfl rfl) ?_
                    refine dwc 22 rfl rfl rfl ?_
                    refine dw1 23 rfl rfl ?_
                    refine o_pass rfl rfl rfl rfl ?_
                    refine o_nil ⟨rfl, ?_⟩
                    refine dw1 24 rfl rfl ?_
                    refine o_run rfl rfl rfl ?_
                    refine Pstep.go (st_pickF rfl rfl rfl rfl) ?_
                    refine o_nil ⟨rfl, ?_⟩
                    refine dw1 25 rfl rfl ?_
                    refine o_run rfl rfl rfl ?_
                    refine Pstep.go (st_move rfl rfl) ?_
                    refine o_nil ⟨rfl, ?_⟩
                    refine dws ?_
                    refine d_pure [3, 108] [] rfl rfl (fun _ => gp_pass rfl rfl rfl rfl) ?_
                    refine d_pure [8, 108] [] rfl rfl (fun _ => gp_pass rfl rfl rfl rfl) ?_
                    refine d_pure [109, 110, 108] [] rfl rfl (fun _ => gp_pass rfl rfl rfl rfl) ?_
                    refine d_pure [111, 108] [] rfl rfl (fun _ => gp_pass rfl rfl rfl rfl) ?_
                    refine d_pure [112, 108] [] rfl rfl (fun _ => gp_pass rfl rfl rfl rfl) ?_
                    refine d_pure [113, 108] [] rfl rfl (fun _ => gp_pass rfl rfl rfl rfl) ?_
                    refine d_pure [3, 108] [] rfl rfl (fun _ => gp_pass rfl rfl rfl rfl) ?_
                    refine d_pure [5, 108] [] rfl rfl (fun _ => gp_pass rfl rfl rfl rfl) ?_
                    refine d_pure [115, 116, 108] [] rfl rfl (fun _ => gp_pass rfl rfl rfl rfl) ?_
                    refine d_pure [117, 108] [] rfl rfl (fun _ => gp_pass rfl rfl rfl rfl) ?_
                    refine d_pure [118, 108] [] rfl rfl (fun _ => gp_pass rfl rfl rfl rfl) ?_
                    refine d_pure [119, 108] [] rfl rfl (fun _ => gp_pass rfl rfl rfl rfl) ?_
                    refine dwc 37 rfl rfl rfl ?_
                    refine dw1 38 rfl rfl ?_
                    refine o_pass rfl rfl rfl rfl ?_
                    refine o_nil ⟨rfl, ?_⟩
                    refine dw1 39 rfl rfl ?_
                    refine o_run rfl rfl rfl ?_
                    refine Pstep.go (st_pickF rfl rfl rfl rfl) ?_
                    refine o_nil ⟨rfl, ?_⟩
                    refine dw1 40 rfl rfl ?_
                    refine o_run rfl rfl rfl ?_
                    refine Pstep.go (st_move rfl rfl) ?_
                    refine o_nil ⟨rfl, ?_⟩
                    refine dws ?_
                    refine d_pure [3, 123] [] rfl rfl (fun _ => gp_pass rfl rfl rfl rfl) ?_
                    refine d_pure [8, 123] [] rfl rfl (fun _ => gp_pass rfl rfl rfl rfl) ?_
                    refine d_pure [124, 125, 123] [] rfl rfl (fun _ => gp_pass rfl rfl rfl rfl) ?_
                    refine d_pure [126, 123] [] rfl rfl (fun _ => gp_pass rfl rfl rfl rfl) ?_
                    refine d_pure [127, 123] [] rfl rfl (fun _ => gp_pass rfl rfl rfl rfl) ?_
                    refine d_pure [3, 123] [] rfl rfl (fun _ => gp_pass rfl rfl rfl rfl) ?_
                    refine d_pure [5, 123] [] rfl rfl (fun _ => gp_pass rfl rfl rfl rfl) ?_
                    refine d_pure [129, 130, 123] [] rfl rfl (fun _ => gp_pass rfl rfl rfl rfl) ?_
                    refine d_pure [131, 123] [] rfl rfl (fun _ => gp_pass rfl rfl rfl rfl) ?_
                    refine d_pure [132, 123] [] rfl rfl (fun _ => gp_pass rfl rfl rfl rfl) ?_
                    have hdk := hbd _ (List.getElem_mem hk1)
                    simp only [Mx] at hdk
                    refine d_pure [133, 123] [] rfl rfl (fun _ => gp_pass rfl rfl rfl rfl) ?_
                    refine dwc 51 rfl rfl rfl ?_
                    refine dw1 52 rfl rfl ?_
                    refine o_pass rfl rfl rfl rfl ?_
                    refine o_nil ⟨rfl, ?_⟩
                    refine dw1 53 rfl rfl ?_
                    refine o_run rfl rfl rfl ?_
                    refine Pstep.go (st_pickF rfl rfl rfl rfl) ?_
                    refine o_nil ⟨rfl, ?_⟩
                    refine dw1 54 rfl rfl ?_
                    refine Pstep.go (st_pickF rfl rfl rfl rfl) ?_
                    refine o_nil ⟨rfl, ?_⟩
                    refine dw1 55 rfl rfl ?_
                    refine Pstep.go (st_assign rfl rfl) ?_
                    refine o_nil ⟨rfl, ?_⟩
                    refine dwe ?_
                    refine a_region ?_
                    refine Pstep.go (st_move rfl rfl) ?_
                    refine Pstep.go (st_add rfl rfl (wrapS (m + 1) (by omega)) rfl) ?_
                    refine Pstep.go (st_assign rfl rfl) ?_
                    refine o_nil ?_
                    exact ⟨(m + 1, _, _), ⟨by show m + 1 ≤ _; omega, by show _ = ((L.take (m + 1)).map (bs L[k].1.acc.a)).sum; rw [sum_snoc hm1, ← hn]; unfold bs; simp_all, by show _ = (L.take (m + 1)).any (opp L[k]); rw [any_snoc hm1, ← hb]; unfold opp; first | (simp_all; done) | (show decide (L[m].2 = 0 - L[k].2) = _; simp_all)⟩, by show L.length - (m + 1) < L.length - m; omega, lep_of hF [] rfl (rfl) ⟨rfl, rfl, rfl, rfl, rfl, trivial⟩⟩
            · refine a_exit ?_
              refine a_seq ?_
              have hfull : L.take m = L := List.take_of_length_le (by have h := h50; omega)
              rw [hfull] at hn hb
              have hmem : L[k] ∈ L := List.getElem_mem hk1
              have hne : L[k].2 ≠ 0 := hnz _ hmem
              have hn0 : L[k].1.k = 0 → n = 0 := fun h => by rw [hn]; exact hsum _ hmem h
              have hb1 : L[k].1.k = 1 → b = true := fun h => by rw [hb]; exact hopp _ hmem h
              refine a_region ?_
              refine Pstep.go (st_move rfl rfl) ?_
              refine Pstep.go (st_move rfl rfl) ?_
              refine Pstep.go (st_indexD (k) rfl rfl (rfl) (getm hk1) Try.underlying37 rfl sz45 rfl) ?_
              refine Pstep.go (st_fieldF1 rfl fi45_1 rfl rfl rfl) ?_
              refine Pstep.go (st_loadD1 rfl rfl on2 rfl) ?_
              refine Pstep.go (st_eql rfl rfl rfl) ?_
              refine Pstep.go (st_move rfl rfl) ?_
              refine o_setF 144 rfl ((by simpa using hne)) ?_
              refine o_run rfl rfl rfl ?_
              refine Pstep.go (st_move rfl rfl) ?_
              refine o_run rfl rfl rfl ?_
              refine Pstep.go (st_move rfl rfl) ?_
              refine o_run rfl rfl rfl ?_
              refine Pstep.go (st_indexD (k) rfl rfl (rfl) (getm hk1) Try.underlying37 rfl sz45 rfl) ?_
              refine o_run rfl rfl rfl ?_
              refine Pstep.go (st_fieldFS rfl fi45_0 rfl rfl rfl) ?_
              refine o_run rfl rfl rfl ?_
              refine Pstep.go (st_fieldF1 rfl fi43_0 rfl rfl rfl) ?_
              refine o_run rfl rfl rfl ?_
              refine Pstep.go (st_loadD1 rfl rfl on3 rfl) ?_
              refine o_run rfl rfl rfl ?_
              refine Pstep.go (st_eql rfl rfl rfl) ?_
              refine o_run rfl rfl rfl ?_
              refine Pstep.go (st_move rfl rfl) ?_
              refine o_splitP 152 rfl (fun h152 => ?_) (fun h152 => ?_)
              · refine o_run rfl rfl rfl ?_
                refine Pstep.go (st_move rfl rfl) ?_
                refine o_run rfl rfl rfl ?_
                refine Pstep.go (st_neq rfl rfl rfl) ?_
                refine o_run rfl rfl rfl ?_
                refine Pstep.go (st_pickT rfl rfl rfl rfl) ?_
                refine Pstep.go (st_pickF rfl rfl rfl rfl) ?_
                refine Pstep.go (st_move rfl rfl) ?_
                refine o_setF 157 rfl ((by simp_all)) ?_
                refine o_run rfl rfl rfl ?_
                refine Pstep.go (st_move rfl rfl) ?_
                refine o_run rfl rfl rfl ?_
                refine Pstep.go (st_move rfl rfl) ?_
                refine o_run rfl rfl rfl ?_
                refine Pstep.go (st_indexD (k) rfl rfl (rfl) (getm hk1) Try.underlying37 rfl sz45 rfl) ?_
                refine o_run rfl rfl rfl ?_
                refine Pstep.go (st_fieldFS rfl fi45_0 rfl rfl rfl) ?_
                refine o_run rfl rfl rfl ?_
                refine Pstep.go (st_fieldF1 rfl fi43_0 rfl rfl rfl) ?_
                refine o_run rfl rfl rfl ?_
                refine Pstep.go (st_loadD1 rfl rfl on3 rfl) ?_
                refine o_run rfl rfl rfl ?_
                refine Pstep.go (st_eql rfl rfl rfl) ?_
                refine o_run rfl rfl rfl ?_
                refine Pstep.go (st_move rfl rfl) ?_
                refine o_splitP 165 rfl (fun h165 => ?_) (fun h165 => ?_)
                · refine o_run rfl rfl rfl ?_
                  refine Pstep.go (st_move rfl rfl) ?_
                  refine o_run rfl rfl rfl ?_
                  refine Pstep.go (st_not rfl rfl) ?_
                  refine o_run rfl rfl rfl ?_
                  refine Pstep.go (st_pickT rfl rfl rfl rfl) ?_
                  refine Pstep.go (st_pickF rfl rfl rfl rfl) ?_
                  refine o_nil ?_
                  refine a_false rfl ((by simp_all)) ?_
                  refine a_skip ?_
                  refine a_region ?_
                  refine Pstep.go (st_move rfl rfl) ?_
                  refine Pstep.go (st_add rfl rfl (wrapS (k + 1) (by omega)) rfl) ?_
                  refine Pstep.go (st_assign rfl rfl) ?_
                  refine o_nil ?_
                  exact ⟨k + 1, (by show k + 1 ≤ _; omega), by show L.length - (k + 1) < L.length - k; omega, lep_of hF [] rfl (rfl) ⟨rfl, rfl, trivial⟩⟩
                · refine o_pass rfl rfl rfl rfl ?_
                  refine o_pass rfl rfl rfl rfl ?_
                  refine o_run rfl rfl rfl ?_
                  refine Pstep.go (st_pickF rfl rfl rfl rfl) ?_
                  refine Pstep.go (st_pickF rfl rfl rfl rfl) ?_
                  refine o_nil ?_
                  refine a_false rfl rfl ?_
                  refine a_skip ?_
                  refine a_region ?_
                  refine Pstep.go (st_move rfl rfl) ?_
                  refine Pstep.go (st_add rfl rfl (wrapS (k + 1) (by omega)) rfl) ?_
                  refine Pstep.go (st_assign rfl rfl) ?_
                  refine o_nil ?_
                  exact ⟨k + 1, (by show k + 1 ≤ _; omega), by show L.length - (k + 1) < L.length - k; omega, lep_of hF [] rfl (rfl) ⟨rfl, rfl, trivial⟩⟩
              · refine o_pass rfl rfl rfl rfl ?_
                refine o_pass rfl rfl rfl rfl ?_
                refine o_run rfl rfl rfl ?_
                refine Pstep.go (st_pickF rfl rfl rfl rfl) ?_
                refine Pstep.go (st_pickF rfl rfl rfl rfl) ?_
                refine Pstep.go (st_move rfl rfl) ?_
                refine o_run rfl rfl rfl ?_
                refine Pstep.go (st_move rfl rfl) ?_
                refine o_run rfl rfl rfl ?_
                refine Pstep.go (st_move rfl rfl) ?_
                refine o_run rfl rfl rfl ?_
                refine Pstep.go (st_indexD (k) rfl rfl (rfl) (getm hk1) Try.underlying37 rfl sz45 rfl) ?_
                refine o_run rfl rfl rfl ?_
                refine Pstep.go (st_fieldFS rfl fi45_0 rfl rfl rfl) ?_
                refine o_run rfl rfl rfl ?_
                refine Pstep.go (st_fieldF1 rfl fi43_0 rfl rfl rfl) ?_
                refine o_run rfl rfl rfl ?_
                refine Pstep.go (st_loadD1 rfl rfl on3 rfl) ?_
                refine o_run rfl rfl rfl ?_
                refine Pstep.go (st_eql rfl rfl rfl) ?_
                refine o_run rfl rfl rfl ?_
                refine Pstep.go (st_move rfl rfl) ?_
                refine o_splitP 165 rfl (fun h165 => ?_) (fun h165 => ?_)
                · refine o_run rfl rfl rfl ?_
                  refine Pstep.go (st_move rfl rfl) ?_
                  refine o_run rfl rfl rfl ?_
                  refine Pstep.go (st_not rfl rfl) ?_
                  refine o_run rfl rfl rfl ?_
                  refine Pstep.go (st_pickT rfl rfl rfl rfl) ?_
                  refine Pstep.go (st_pickF rfl rfl rfl rfl) ?_
                  refine o_nil ?_
                  refine a_false rfl ((by simp_all)) ?_
                  refine a_skip ?_
                  refine a_region ?_
                  refine Pstep.go (st_move rfl rfl) ?_
                  refine Pstep.go (st_add rfl rfl (wrapS (k + 1) (by omega)) rfl) ?_
                  refine Pstep.go (st_assign rfl rfl) ?_
                  refine o_nil ?_
                  exact ⟨k + 1, (by show k + 1 ≤ _; omega), by show L.length - (k + 1) < L.length - k; omega, lep_of hF [] rfl (rfl) ⟨rfl, rfl, trivial⟩⟩
                · refine o_pass rfl rfl rfl rfl ?_
                  refine o_pass rfl rfl rfl rfl ?_
                  refine o_run rfl rfl rfl ?_
                  refine Pstep.go (st_pickF rfl rfl rfl rfl) ?_
                  refine Pstep.go (st_pickF rfl rfl rfl rfl) ?_
                  refine o_nil ?_
                  refine a_false rfl rfl ?_
                  refine a_skip ?_
                  refine a_region ?_
                  refine Pstep.go (st_move rfl rfl) ?_
                  refine Pstep.go (st_add rfl rfl (wrapS (k + 1) (by omega)) rfl) ?_
                  refine Pstep.go (st_assign rfl rfl) ?_
                  refine o_nil ?_
                  exact ⟨k + 1, (by show k + 1 ≤ _; omega), by show L.length - (k + 1) < L.length - k; omega, lep_of hF [] rfl (rfl) ⟨rfl, rfl, trivial⟩⟩
          · refine a_exit ?_
            refine a_seq ?_
            refine a_region ?_
            refine Pstep.go (st_assign rfl rfl) ?_
            refine o_nil ?_
            refine a_ret ?_
            exact ⟨_, [], [], res_of rfl, rfl, rfl, rfl, rfl⟩
end Go.Proofs.Ytfmpiabmnjmobaa
