/- Layer 28: the reference's Settle; conversion back. -/
import Derived.Test.YtfmpiabmnjmobaaTot5
namespace Go.Proofs.Ytfmpiabmnjmobaa
open Go.RowKit

set_option maxRecDepth 100000 in
theorem refsettle_p (p : Prb) (l : List Int) (hp : prbE p = 0) (hb : PrbB p) (hl : l.length ≤ 1000) : PCalls Try.prog 45 [.d (prbD p), .d (.sl none (l.map intD))] (.tup [prbD (setlP p l), intD (setlE p l)]) := by
  have ht := reftotals_p p l hp hb hl
  have hC : choE p l = setE (p.it.map Itm.id) l := if_neg (fun h => h hp)
  have hb2 := hb.2.1
  have hb3 := hb.2.2
  by_cases hE : setE (p.it.map Itm.id) l = 0
  · have hR1 : (totR p l).length ≤ 100000 := by unfold totR; rw [List.length_map]; exact hb.1
    rw [if_pos hE, hE] at ht
    have hS : setlE p l = if (totR p l).any outR then 12 else 0 := by unfold setlE; rw [hC, if_neg (by simpa using hE)]
    have hP : setlE p l = 0 → setlP p l = ⟨totR p l, setlI l p.it⟩ := fun h => if_pos h
    have hP2 : setlE p l ≠ 0 → setlP p l = ⟨[], []⟩ := fun h => if_neg h
    obtain ⟨R, hR⟩ : ∃ R, totR p l = R := ⟨_, rfl⟩
    obtain ⟨X, hX⟩ : ∃ X, setlP p l = X := ⟨_, rfl⟩
    obtain ⟨e, he⟩ : ∃ e, setlE p l = e := ⟨_, rfl⟩
    rw [hR] at ht hP hR1 hS
    rw [hX, he] at hP hP2
    rw [he] at hS
    rw [hX, he]
    refine a_enter Try.func45 rfl rfl Try.ntmps45 rfl rfl rfl fun F hF => ?_
    refine a_seq ?_
    refine a_region ?_
    refine Estep.go (st_box 1 rfl rfl rfl rfl rfl rfl rfl) ?_
    refine Estep.go (st_alloc 2 zl67 rfl rfl rfl rfl) ?_
    refine Pstep.go (st_assign rfl rfl) ?_
    refine o_nil ?_
    refine a_seq ?_
    refine a_region ?_
    refine Pstep.go (st_loadPS rfl rfl rw67 rfl rfl rfl) ?_
    refine Pstep.go (st_move rfl rfl) ?_
    refine Pstep.go (st_callP (ht) rfl rfl) ?_
    refine Pstep.go (st_move rfl rfl) ?_
    refine Pstep.go (st_extractD rfl rfl rfl) ?_
    refine Pstep.go (st_extractD rfl rfl rfl) ?_
    refine Pstep.go (st_assign rfl rfl) ?_
    refine Pstep.go (st_assign rfl rfl) ?_
    refine o_nil ?_
    refine a_seq ?_
    refine a_seq ?_
    refine a_region ?_
    refine Pstep.go (st_move rfl rfl) ?_
    refine Pstep.go (st_neq rfl rfl rfl) ?_
    refine o_nil ?_
    refine a_false rfl ((by decide)) ?_
    refine a_skip ?_
    refine a_seq ?_
    refine a_seq ?_
    refine a_region ?_
    refine Pstep.go (st_assign rfl rfl) ?_
    refine o_nil ?_
    refine a_block ?_
    refine a_loopP (α := Nat) (fun k => ⟨99, [(1, .d (.sl none (l.map intD))), (2, (.ptr 1 0 0)), (4, (.ptr 2 0 0)), (6, (.d (.sl none (R.map rooD)))), (8, (.d (intD (k : Int))))], [(1, [prbB2 67 p]), (2, [.blk 67 [nilC, nilC]])]⟩) (fun k => k ≤ R.length ∧ ∀ x ∈ R.take k, outR x = false) (fun k => R.length - k) (0) (⟨Nat.zero_le _, by simp⟩) (lep_of hF [1, 2] rfl rfl ⟨rfl, rfl, rfl, rfl, rfl, trivial⟩) ?_
    rintro k ⟨hk0, hk⟩
    refine a_seq ?_
    refine a_seq ?_
    refine a_region ?_
    refine Pstep.go (st_move rfl rfl) ?_
    refine Pstep.go (st_move rfl rfl) ?_
    refine Pstep.go (st_lenMap rfl Try.underlying58 rfl) ?_
    refine Pstep.go (st_lss rfl rfl rfl) ?_
    refine o_nil ?_
    refine a_if rfl (fun h27 => ?_) (fun h27 => ?_)
    · have hk1 : k < R.length := lt_cast h27
      refine a_skip ?_
      refine a_seq ?_
      refine a_block ?_
      refine a_seq ?_
      refine a_region ?_
      refine Pstep.go (st_move rfl rfl) ?_
      refine Pstep.go (st_move rfl rfl) ?_
      refine Pstep.go (st_indexD (k) rfl rfl (rfl) (getm hk1) Try.underlying58 rfl sz61 rfl) ?_
      refine Pstep.go (st_fieldF1 rfl fi61_1 rfl rfl rfl) ?_
      refine Pstep.go (st_loadD1 rfl rfl on2 rfl) ?_
      refine Pstep.go (st_lss rfl rfl rfl) ?_
      refine Pstep.go (st_move rfl rfl) ?_
      refine o_splitP 36 rfl (fun h36 => ?_) (fun h36 => ?_)
      · refine o_pass rfl rfl rfl rfl ?_
        refine o_pass rfl rfl rfl rfl ?_
        refine o_pass rfl rfl rfl rfl ?_
        refine o_pass rfl rfl rfl rfl ?_
        refine o_pass rfl rfl rfl rfl ?_
        refine o_pass rfl rfl rfl rfl ?_
        refine Pstep.go (st_pickT rfl rfl rfl rfl) ?_
        refine o_nil ?_
        refine a_true rfl rfl ?_
        refine a_seq ?_
        refine a_region ?_
        refine Pstep.go (st_build zl67 pl67 rfl rfl rfl) ?_
        refine o_weakD 44 (prbD ⟨[], []⟩) rfl prb0_weak ?_
        refine Estep.go (st_storeP rfl rfl rfl rfl rfl rfl rfl sz67) ?_
        refine Pstep.go (st_assign rfl rfl) ?_
        refine o_nil ?_
        refine a_ret ?_
        exact ⟨_, [], [], res_of rfl, rfl, rfl, by have hany : R.any outR = true := List.any_eq_true.2 ⟨R[k], List.getElem_mem hk1, by unfold outR; simp; omega⟩; rw [hany] at hS; rw [hP2 (by rw [hS]; decide), hS]; rfl, rfl⟩
      · refine o_run rfl rfl rfl ?_
        refine Pstep.go (st_move rfl rfl) ?_
        refine o_run rfl rfl rfl ?_
        refine Pstep.go (st_move rfl rfl) ?_
        refine o_run rfl rfl rfl ?_
        refine Pstep.go (st_indexD (k) rfl rfl (rfl) (getm hk1) Try.underlying58 rfl sz61 rfl) ?_
        refine o_run rfl rfl rfl ?_
        refine Pstep.go (st_fieldF1 rfl fi61_1 rfl rfl rfl) ?_
        refine o_run rfl rfl rfl ?_
        refine Pstep.go (st_loadD1 rfl rfl on2 rfl) ?_
        refine o_run rfl rfl rfl ?_
        refine Pstep.go (st_gtr rfl rfl rfl) ?_
        refine Pstep.go (st_pickF rfl rfl rfl rfl) ?_
        refine o_nil ?_
        refine a_if rfl (fun h43 => ?_) (fun h43 => ?_)
        · refine a_seq ?_
          refine a_region ?_
          refine Pstep.go (st_build zl67 pl67 rfl rfl rfl) ?_
          refine o_weakD 44 (prbD ⟨[], []⟩) rfl prb0_weak ?_
          refine Estep.go (st_storeP rfl rfl rfl rfl rfl rfl rfl sz67) ?_
          refine Pstep.go (st_assign rfl rfl) ?_
          refine o_nil ?_
          refine a_ret ?_
          exact ⟨_, [], [], res_of rfl, rfl, rfl, by have hany : R.any outR = true := List.any_eq_true.2 ⟨R[k], List.getElem_mem hk1, by unfold outR; simp; omega⟩; rw [hany] at hS; rw [hP2 (by rw [hS]; decide), hS]; rfl, rfl⟩
        · refine a_skip ?_
          refine a_region ?_
          refine Pstep.go (st_move rfl rfl) ?_
          refine Pstep.go (st_add rfl rfl (wrapS (k + 1) (by omega)) rfl) ?_
          refine Pstep.go (st_assign rfl rfl) ?_
          refine o_nil ?_
          exact ⟨k + 1, ⟨by show k + 1 ≤ _; omega, by rw [List.take_succ_eq_append_getElem hk1]; intro x hx; rcases List.mem_append.1 hx with hx | hx; exact hk x hx; rw [List.mem_singleton.1 hx]; unfold outR; simp; omega⟩, by show R.length - (k + 1) < R.length - k; omega, lep_of hF [1, 2] rfl (rfl) ⟨rfl, rfl, rfl, rfl, rfl, trivial⟩⟩
    · refine a_exit ?_
      refine a_seq ?_
      have hall : R.any outR = false := by rw [List.take_of_length_le (by have h := h27; omega)] at hk; rw [List.any_eq_false]; intro x hx; rw [hk x hx]; simp
      rw [hall] at hS
      have he0 : e = 0 := hS
      refine a_region ?_
      refine Pstep.go (st_move rfl rfl) ?_
      refine Pstep.go (st_build zl67 pl67 rfl rfl rfl) ?_
      refine Estep.go (st_alloc 3 zl67 rfl rfl rfl rfl) ?_
      refine Estep.go (st_storeP rfl rfl rfl rfl rfl rfl rfl sz67) ?_
      refine o_nil ?_
      refine a_seq ?_
      refine a_seq ?_
      refine a_adoptC 3 0 1 902 sl65 rfl rfl rfl rfl rfl rfl rfl ?_
      refine a_region ?_
      refine Pstep.go (st_assign rfl rfl) ?_
      refine o_nil ?_
      refine a_block ?_
      refine a_loopP (α := Nat × List Itm) (fun q => ⟨99, [(1, .d (.sl none (l.map intD))), (2, (.ptr 1 0 0)), (4, (.ptr 2 0 0)), (9, (.ptr 3 0 0)), (10, (.d (intD (q.1 : Int))))], [(902, [.rowD 26 6 (q.2.map itmD)]), (1, [prbB2 67 p]), (2, [.blk 67 [nilC, nilC]]), (3, [.blk 67 [.d (.sl none (R.map rooD)), .own 902 0 q.2.length]])]⟩) (fun q => q.1 ≤ p.it.length ∧ q.2 = setlI l (p.it.take q.1)) (fun q => p.it.length - q.1) ((0, [])) (⟨Nat.zero_le _, rfl⟩) (lep_of hF [902, 1, 2, 3] rfl rfl ⟨rfl, rfl, rfl, rfl, rfl, trivial⟩) ?_
      rintro ⟨k, acc⟩ ⟨hk0, hA⟩
      dsimp only at hk0 hA ⊢
      refine a_seq ?_
      refine a_seq ?_
      refine a_region ?_
      refine Pstep.go (st_move rfl rfl) ?_
      refine Pstep.go (st_fieldP rfl fi67_1 rfl rfl rfl) ?_
      refine Pstep.go (st_loadP rfl rfl rfl on65 rfl) ?_
      refine Pstep.go (st_lenMap rfl Try.underlying65 rfl) ?_
      refine Pstep.go (st_lss rfl rfl rfl) ?_
      refine o_nil ?_
      refine a_if rfl (fun h51 => ?_) (fun h51 => ?_)
      · have hk1 : k < p.it.length := lt_cast h51
        refine a_skip ?_
        refine a_seq ?_
        refine a_block ?_
        refine a_seq ?_
        refine a_seq ?_
        refine a_region ?_
        have hgi := hb3 _ (List.getElem_mem hk1)
        have hal : acc.length ≤ 100000 := by rw [hA]; exact Nat.le_trans (setlI_len _ _) (by rw [List.length_take]; omega)
        refine Pstep.go (st_move rfl rfl) ?_
        refine Pstep.go (st_fieldP rfl fi67_1 rfl rfl rfl) ?_
        refine Pstep.go (st_loadP rfl rfl rfl on65 rfl) ?_
        refine Pstep.go (st_move rfl rfl) ?_
        refine Pstep.go (st_indexD (k) rfl rfl (rfl) (getm hk1) Try.underlying65 rfl sz26 rfl) ?_
        refine Pstep.go (st_fieldF1 rfl fi26_0 rfl rfl rfl) ?_
        refine Pstep.go (st_loadD1 rfl rfl on3 rfl) ?_
        refine Pstep.go (st_callP (has_p l p.it[k].id (by omega)) rfl rfl) ?_
        refine o_nil ?_
        refine a_if rfl (fun h61 => ?_) (fun h61 => ?_)
        · refine a_exit ?_
          refine a_region ?_
          refine Pstep.go (st_move rfl rfl) ?_
          refine Pstep.go (st_add rfl rfl (wrapS (k + 1) (by omega)) rfl) ?_
          refine Pstep.go (st_assign rfl rfl) ?_
          refine o_nil ?_
          exact ⟨(k + 1, acc), ⟨by show k + 1 ≤ _; omega, by show acc = setlI l (p.it.take (k + 1)); rw [setlI_snoc_in hk1 h61]; exact hA⟩, by show p.it.length - (k + 1) < p.it.length - k; omega, lep_of hF [902, 1, 2, 3] rfl (rfl) ⟨rfl, rfl, rfl, rfl, rfl, trivial⟩⟩
        · refine a_skip ?_
          refine a_seq ?_
          refine a_region ?_
          refine Pstep.go (st_fieldP rfl fi67_1 rfl rfl rfl) ?_
          refine Pstep.go (st_loadP rfl rfl rfl on65 rfl) ?_
          refine Pstep.go (st_move rfl rfl) ?_
          refine Pstep.go (st_indexD (k) rfl rfl (rfl) (getm hk1) Try.underlying65 rfl sz26 rfl) ?_
          refine Pstep.go (st_loadDS rfl rfl rw26 rfl) ?_
          refine Estep.go (st_alloc 4 zl26 rfl rfl rfl rfl) ?_
          refine Estep.go (st_storeP rfl rfl rfl rfl rfl rfl rfl sz26) ?_
          refine o_nil ?_
          refine a_seq ?_
          refine a_region ?_
          refine Pstep.go (st_assign rfl rfl) ?_
          refine o_nil ?_
          refine a_seq ?_
          refine a_seq ?_
          refine a_adopt 12 903 sl24 rfl rfl rfl rfl ?_
          refine a_region ?_
          refine Pstep.go (st_assign rfl rfl) ?_
          refine o_nil ?_
          refine a_block ?_
          refine a_loopP (α := Nat × List Int) (fun q => ⟨99, [(1, .d (.sl none (l.map intD))), (2, (.ptr 1 0 0)), (4, (.ptr 2 0 0)), (9, (.ptr 3 0 0)), (10, (.d (intD (k : Int)))), (11, (.ptr 4 0 0)), (12, (.own 903 0 q.2.length)), (13, (.d (intD (q.1 : Int))))], [(903, [.rowD 3 1 (q.2.map intD)]), (4, [itmB 26 p.it[k]]), (902, [.rowD 26 6 (acc.map itmD)]), (1, [prbB2 67 p]), (2, [.blk 67 [nilC, nilC]]), (3, [.blk 67 [.d (.sl none (R.map rooD)), .own 902 0 acc.length]])]⟩) (fun q => q.1 ≤ p.it[k].af.length ∧ q.2 = kept l (p.it[k].af.take q.1)) (fun q => p.it[k].af.length - q.1) ((0, [])) (⟨Nat.zero_le _, rfl⟩) (lep_of hF [903, 4, 902, 1, 2, 3] rfl rfl ⟨rfl, rfl, rfl, rfl, rfl, rfl, rfl, rfl, trivial⟩) ?_
          rintro ⟨j, afs⟩ ⟨hj0, hB⟩
          dsimp only at hj0 hB ⊢
          refine a_seq ?_
          refine a_seq ?_
          refine a_region ?_
          refine Pstep.go (st_move rfl rfl) ?_
          refine Pstep.go (st_fieldP rfl fi26_5 rfl rfl rfl) ?_
          refine Pstep.go (st_loadP rfl rfl rfl on24 rfl) ?_
          refine Pstep.go (st_lenMap rfl Try.underlying24 rfl) ?_
          refine Pstep.go (st_lss rfl rfl rfl) ?_
          refine o_nil ?_
          refine a_if rfl (fun h71 => ?_) (fun h71 => ?_)
          · have hj1 : j < p.it[k].af.length := lt_cast h71
            refine a_skip ?_
            refine a_seq ?_
            refine a_block ?_
            refine a_seq ?_
            refine a_region ?_
            refine Pstep.go (st_move rfl rfl) ?_
            refine Pstep.go (st_fieldP rfl fi26_5 rfl rfl rfl) ?_
            refine Pstep.go (st_loadP rfl rfl rfl on24 rfl) ?_
            refine Pstep.go (st_move rfl rfl) ?_
            refine Pstep.go (st_indexD (j) rfl rfl (rfl) (getm hj1) Try.underlying24 rfl sz3 rfl) ?_
            refine Pstep.go (st_loadD1 rfl rfl on3 rfl) ?_
            refine Pstep.go (st_callP (has_p l p.it[k].af[j] (by omega)) rfl rfl) ?_
            refine Pstep.go (st_notP rfl rfl) ?_
            refine o_nil ?_
            refine a_if rfl (fun h81 => ?_) (fun h81 => ?_)
            · refine a_region ?_
              refine Pstep.go (st_move rfl rfl) ?_
              refine Pstep.go (st_fieldP rfl fi26_5 rfl rfl rfl) ?_
              refine Pstep.go (st_loadP rfl rfl rfl on24 rfl) ?_
              refine Pstep.go (st_move rfl rfl) ?_
              refine Pstep.go (st_indexD (j) rfl rfl (rfl) (getm hj1) Try.underlying24 rfl sz3 rfl) ?_
              refine Pstep.go (st_loadD1 rfl rfl on3 rfl) ?_
              have hbl : afs.length ≤ 100000 := by rw [hB]; exact Nat.le_trans (kept_le _ _) (by rw [List.length_take]; omega)
              refine Estep.go (st_buildSlice 5 sl24 rfl rfl rfl rfl rfl rfl rfl rfl) ?_
              refine Estep.go (st_appM (afs) ([p.it[k].af[j]]) rfl rfl rfl rfl rfl rfl rfl rfl sl24 (by simp only [List.length_singleton]; omega) rfl rfl rfl rfl) ?_
              refine Pstep.go (st_assign rfl rfl) ?_
              refine o_nil ?_
              refine a_region ?_
              refine Pstep.go (st_move rfl rfl) ?_
              refine Pstep.go (st_add rfl rfl (wrapS (j + 1) (by omega)) rfl) ?_
              refine Pstep.go (st_assign rfl rfl) ?_
              refine o_nil ?_
              exact ⟨(j + 1, afs ++ [p.it[k].af[j]]), ⟨by show j + 1 ≤ _; omega, by show afs ++ [p.it[k].af[j]] = kept l (p.it[k].af.take (j + 1)); rw [kept_in hj1 (decide_eq_false h81), hB]⟩, by show p.it[k].af.length - (j + 1) < p.it[k].af.length - j; omega, lep_of hF [903, 4, 902, 1, 2, 3] rfl (rfl) ⟨rfl, rfl, rfl, rfl, rfl, rfl, rfl, rfl, trivial⟩⟩
            · refine a_skip ?_
              refine a_region ?_
              refine Pstep.go (st_move rfl rfl) ?_
              refine Pstep.go (st_add rfl rfl (wrapS (j + 1) (by omega)) rfl) ?_
              refine Pstep.go (st_assign rfl rfl) ?_
              refine o_nil ?_
              exact ⟨(j + 1, afs), ⟨by show j + 1 ≤ _; omega, by show afs = kept l (p.it[k].af.take (j + 1)); rw [kept_out hj1 (decide_eq_true (Decidable.not_not.1 h81)), hB]⟩, by show p.it[k].af.length - (j + 1) < p.it[k].af.length - j; omega, lep_of hF [903, 4, 902, 1, 2, 3] rfl (rfl) ⟨rfl, rfl, rfl, rfl, rfl, rfl, rfl, rfl, trivial⟩⟩
          · refine a_exit ?_
            refine a_seq ?_
            refine a_region ?_
            refine Pstep.go (st_move rfl rfl) ?_
            refine Pstep.go (st_fieldP rfl fi26_5 rfl rfl rfl) ?_
            refine Estep.go (st_storeP rfl rfl rfl rfl rfl rfl rfl sz24) ?_
            refine o_nil ?_
            have hfb : afs = kept l p.it[k].af := by rw [hB, List.take_of_length_le (by have h := h71; omega)]
            refine a_freezeC (ys := (kept l p.it[k].af).map intD) 4 0 5 903 rfl rfl rfl (by simp) (by rw [hfb]; exact List.take_of_length_le (by simp)) rfl rfl rfl rfl rfl rfl ?_
            refine a_region ?_
            refine Pstep.go (st_fieldP rfl fi67_1 rfl rfl rfl) ?_
            refine Pstep.go (st_loadP rfl rfl rfl on65 rfl) ?_
            refine Pstep.go (st_loadPS rfl rfl rw26 rfl rfl rfl) ?_
            refine Estep.go (st_buildSlice 6 sl65 rfl rfl rfl rfl rfl rfl rfl rfl) ?_
            refine Estep.go (st_appM (acc) ([restI l p.it[k]]) rfl rfl rfl rfl rfl rfl rfl rfl sl65 (by simp only [List.length_singleton]; omega) rfl rfl rfl rfl) ?_
            refine Pstep.go (st_fieldP rfl fi67_1 rfl rfl rfl) ?_
            refine Estep.go (st_storeP rfl rfl rfl rfl rfl rfl rfl sz65) ?_
            refine o_nil ?_
            refine a_region ?_
            refine Pstep.go (st_move rfl rfl) ?_
            refine Pstep.go (st_add rfl rfl (wrapS (k + 1) (by omega)) rfl) ?_
            refine Pstep.go (st_assign rfl rfl) ?_
            refine o_nil ?_
            exact ⟨(k + 1, acc ++ [restI l p.it[k]]), ⟨by show k + 1 ≤ _; omega, by show acc ++ [restI l p.it[k]] = setlI l (p.it.take (k + 1)); rw [setlI_snoc_out hk1 h61, hA]⟩, by show p.it.length - (k + 1) < p.it.length - k; omega, lep_of hF [902, 1, 2, 3] rfl (rfl) ⟨rfl, rfl, rfl, rfl, rfl, trivial⟩⟩
      · refine a_exit ?_
        refine a_seq ?_
        have hfa : acc = setlI l p.it := by rw [hA, List.take_of_length_le (by have h := h51; omega)]
        refine a_freezeC (ys := (setlI l p.it).map itmD) 3 0 1 902 rfl rfl rfl (by simp) (by rw [hfa]; exact List.take_of_length_le (by simp)) rfl rfl rfl rfl rfl rfl ?_
        refine a_region ?_
        refine Pstep.go (st_loadPS rfl rfl rw67 rfl rfl rfl) ?_
        refine Estep.go (st_storeP rfl rfl rfl rfl rfl rfl rfl sz67) ?_
        refine Pstep.go (st_assign rfl rfl) ?_
        refine o_nil ?_
        refine a_ret ?_
        exact ⟨_, [], [], res_of rfl, rfl, rfl, by rw [hP he0, he0], rfl⟩
  · have hS : setlE p l = setE (p.it.map Itm.id) l := by unfold setlE; rw [hC, if_pos hE]
    have hP : setlP p l = ⟨[], []⟩ := if_neg (by rw [hS]; exact hE)
    rw [if_neg hE] at ht
    rw [hS, hP]
    refine a_enter Try.func45 rfl rfl Try.ntmps45 rfl rfl rfl fun F hF => ?_
    refine a_seq ?_
    refine a_region ?_
    refine Estep.go (st_box 1 rfl rfl rfl rfl rfl rfl rfl) ?_
    refine Estep.go (st_alloc 2 zl67 rfl rfl rfl rfl) ?_
    refine Pstep.go (st_assign rfl rfl) ?_
    refine o_nil ?_
    refine a_seq ?_
    refine a_region ?_
    refine Pstep.go (st_loadPS rfl rfl rw67 rfl rfl rfl) ?_
    refine Pstep.go (st_move rfl rfl) ?_
    refine Pstep.go (st_callP (ht) rfl rfl) ?_
    refine Pstep.go (st_move rfl rfl) ?_
    refine Pstep.go (st_extractD rfl rfl rfl) ?_
    refine Pstep.go (st_extractD rfl rfl rfl) ?_
    refine Pstep.go (st_assign rfl rfl) ?_
    refine Pstep.go (st_assign rfl rfl) ?_
    refine o_nil ?_
    refine a_seq ?_
    refine a_seq ?_
    refine a_region ?_
    refine Pstep.go (st_move rfl rfl) ?_
    refine Pstep.go (st_neq rfl rfl rfl) ?_
    refine o_nil ?_
    refine a_true rfl ((decide_eq_true hE)) ?_
    refine a_seq ?_
    refine a_region ?_
    refine Pstep.go (st_build zl67 pl67 rfl rfl rfl) ?_
    refine o_weakD 22 (prbD ⟨[], []⟩) rfl prb0_weak ?_
    refine Pstep.go (st_move rfl rfl) ?_
    refine Estep.go (st_storeP rfl rfl rfl rfl rfl rfl rfl sz67) ?_
    refine Pstep.go (st_assign rfl rfl) ?_
    refine o_nil ?_
    refine a_ret ?_
    exact ⟨_, [], [], res_of rfl, rfl, rfl, rfl, rfl⟩
set_option maxRecDepth 100000 in
theorem lawrooms_p (l : List Roo) (hl : l.length ≤ 100000) : PCalls Try.prog 46 [.d (.sl none (l.map rooD))] (.sl none (l.map rooD)) := by
  refine a_enter Try.func46 rfl rfl Try.ntmps46 rfl rfl rfl fun F hF => ?_
  refine a_seq ?_
  refine a_region ?_
  refine Pstep.go (st_assign rfl rfl) ?_
  refine o_nil ?_
  refine a_seq ?_
  refine a_region ?_
  refine Pstep.go (st_assign rfl rfl) ?_
  refine o_nil ?_
  refine a_seq ?_
  refine a_seq ?_
  refine a_adopt 3 900 sl58 rfl rfl rfl rfl ?_
  refine a_region ?_
  refine Pstep.go (st_assign rfl rfl) ?_
  refine o_nil ?_
  refine a_block ?_
  refine a_loopP (α := List Roo) (fun acc => ⟨27, [(0, .d (.sl none (l.map rooD))), (3, (.own 900 0 acc.length)), (4, (.d (intD (acc.length : Int))))], [(900, [.rowD 61 7 (acc.map rooD)])]⟩) (fun acc => acc = l.take acc.length ∧ acc.length ≤ l.length) (fun acc => l.length - acc.length) ([]) (⟨by simp, Nat.zero_le _⟩) (lep_of hF [900] rfl rfl ⟨rfl, rfl, rfl, trivial⟩) ?_
  rintro acc ⟨hI, hk0⟩
  refine a_seq ?_
  refine a_seq ?_
  refine a_region ?_
  refine Pstep.go (st_move rfl rfl) ?_
  refine Pstep.go (st_move rfl rfl) ?_
  refine Pstep.go (st_lenMap rfl Try.underlying69 rfl) ?_
  refine Pstep.go (st_lss rfl rfl rfl) ?_
  refine o_nil ?_
  refine a_if rfl (fun h8 => ?_) (fun h8 => ?_)
  · have hk1 : acc.length < l.length := lt_cast h8
    refine a_skip ?_
    refine a_seq ?_
    refine a_block ?_
    refine a_drawn [[], [], [], [1, 2], [1, 2, 3], [1, 2, 3, 4], [1, 2, 3, 4, 5], [], [], [7, 8], [7, 8, 9], [7, 8, 9, 10], [1, 2, 3, 4, 5, 6, 7, 8, 9, 10, 11], [1, 2, 3, 4, 5, 6, 7, 8, 9, 10, 11, 12], [0, 1, 2, 3, 4, 5, 6, 7, 8, 9, 10, 11, 12, 13], [0, 1, 2, 3, 4, 5, 6, 7, 8, 9, 10, 11, 12, 13, 14]] mixed rfl ?_
    refine dws ?_
    refine d_pure [3] [] rfl rfl (fun _ => gp_none (st_move rfl rfl)) ?_
    refine d_pure [0] [] rfl rfl (fun _ => gp_none (st_move rfl rfl)) ?_
    refine d_pure [4] [] rfl rfl (fun _ => gp_none (st_move rfl rfl)) ?_
    refine d_pure [12, 13] [] rfl rfl (fun _ => gp_none (st_indexD (acc.length) rfl rfl (rfl) (getm hk1) Try.underlying69 rfl sz124 rfl)) ?_
    refine d_pure [14] [] rfl rfl (fun _ => gp_none (st_fieldFS rfl fi124_0 rfl rfl rfl)) ?_
    refine d_pure [15] [] rfl rfl (fun _ => gp_none (st_loadDS rfl rfl rw43 rfl)) ?_
    refine d_pure [16] [] rfl rfl (fun _ => gp_none (st_callP (backres_p l[acc.length].r) rfl rfl)) ?_
    refine d_pure [0] [] rfl rfl (fun _ => gp_none (st_move rfl rfl)) ?_
    refine d_pure [4] [] rfl rfl (fun _ => gp_none (st_move rfl rfl)) ?_
    refine d_pure [18, 19] [] rfl rfl (fun _ => gp_none (st_indexD (acc.length) rfl rfl (rfl) (getm hk1) Try.underlying69 rfl sz124 rfl)) ?_
    refine d_pure [20] [] rfl rfl (fun _ => gp_none (st_fieldF1 rfl fi124_1 rfl rfl rfl)) ?_
    refine d_pure [21] [] rfl rfl (fun _ => gp_none (st_loadD1 rfl rfl on2 rfl)) ?_
    refine d_pure [17, 22] [] rfl rfl (fun _ => gp_none (st_build zl61 pl61 rfl rfl rfl)) ?_
    refine d_eff [23] [50] [(24, _)] rfl rfl (fun _ => ge_none (st_buildSlice 50 sl58 rfl rfl rfl rfl rfl rfl rfl rfl)) (.inr ⟨24, _, rfl, rfl, rfl, rfl, rfl⟩) rfl rfl rfl rfl rfl ?_
    refine dwc 14 rfl rfl rfl ?_
    refine dw1 15 rfl rfl ?_
    refine Estep.go (st_appM (acc) ([l[acc.length]]) rfl rfl rfl rfl rfl rfl rfl rfl sl58 (by simp only [List.length_singleton]; omega) rfl rfl rfl rfl) ?_
    refine o_nil ⟨rfl, ?_⟩
    refine dw1 16 rfl rfl ?_
    refine Pstep.go (st_assign rfl rfl) ?_
    refine o_nil ⟨rfl, ?_⟩
    refine dwe ?_
    refine a_region ?_
    refine Pstep.go (st_move rfl rfl) ?_
    refine Pstep.go (st_add rfl rfl (wrapA acc l[acc.length] (by omega)) rfl) ?_
    refine Pstep.go (st_assign rfl rfl) ?_
    refine o_nil ?_
    exact ⟨acc ++ [l[acc.length]], ⟨tk_next hI hk1, by rw [List.length_append]; show acc.length + 1 ≤ _; omega⟩, by rw [List.length_append]; show l.length - (acc.length + 1) < l.length - acc.length; omega, lep_of hF [900] rfl (rfl) ⟨rfl, rfl, rfl, trivial⟩⟩
  · refine a_exit ?_
    refine a_seq ?_
    have hacc := tk_end hI (fun h => h8 (by omega))
    refine a_freezeM (emb := rooD) 3 900 acc rfl rfl rfl rfl rfl rfl rfl ?_
    refine a_region ?_
    refine Pstep.go (st_move rfl rfl) ?_
    refine Pstep.go (st_assign rfl rfl) ?_
    refine o_nil ?_
    refine a_ret ?_
    exact ⟨_, [], [], res_of rfl, rfl, rfl, by rw [hacc], rfl⟩
set_option maxRecDepth 100000 in
theorem back_p (p : Prb) (h1 : p.ro.length ≤ 100000) (h2 : p.it.length ≤ 100000) (h3 : ∀ i ∈ p.it, i.po.length ≤ 10000 ∧ i.pa.length ≤ 10000 ∧ i.af.length ≤ 10000) : PCalls Try.prog 48 [.d (prbD p)] (prbD p) := by
  refine a_enter Try.func48 rfl rfl Try.ntmps48 rfl rfl rfl fun F hF => ?_
  refine a_seq ?_
  refine a_region ?_
  refine Estep.go (st_box 1 rfl rfl rfl rfl rfl rfl rfl) ?_
  refine Estep.go (st_alloc 2 zl67 rfl rfl rfl rfl) ?_
  refine o_nil ?_
  refine a_seq ?_
  refine a_region ?_
  refine Pstep.go (st_fieldP rfl fi72_0 rfl rfl rfl) ?_
  refine Pstep.go (st_loadP rfl rfl rfl on69 rfl) ?_
  refine Pstep.go (st_callP (lawrooms_p p.ro h1) rfl rfl) ?_
  refine Pstep.go (st_build zl67 pl67 rfl rfl rfl) ?_
  refine Estep.go (st_alloc 3 zl67 rfl rfl rfl rfl) ?_
  refine Estep.go (st_storeP rfl rfl rfl rfl rfl rfl rfl sz67) ?_
  refine o_nil ?_
  refine a_seq ?_
  refine a_seq ?_
  refine a_adoptC 3 0 1 902 sl65 rfl rfl rfl rfl rfl rfl rfl ?_
  refine a_region ?_
  refine Pstep.go (st_assign rfl rfl) ?_
  refine o_nil ?_
  refine a_block ?_
  refine a_loopP (α := List Itm) (fun acc2 => ⟨28, [(1, (.ptr 1 0 0)), (2, (.ptr 2 0 0)), (3, (.ptr 3 0 0)), (4, (.d (intD (acc2.length : Int))))], [(902, [.rowD 26 6 (acc2.map itmD)]), (1, [prbB2 72 p]), (2, [.blk 67 [nilC, nilC]]), (3, [.blk 67 [.d (.sl none (p.ro.map rooD)), .own 902 0 acc2.length]])]⟩) (fun acc2 => acc2 = p.it.take acc2.length ∧ acc2.length ≤ p.it.length) (fun acc2 => p.it.length - acc2.length) ([]) (⟨by simp, Nat.zero_le _⟩) (lep_of hF [902, 1, 2, 3] rfl rfl ⟨rfl, rfl, rfl, rfl, trivial⟩) ?_
  rintro acc2 ⟨hJ, hk2⟩
  refine a_seq ?_
  refine a_seq ?_
  refine a_region ?_
  refine Pstep.go (st_move rfl rfl) ?_
  refine Pstep.go (st_fieldP rfl fi72_1 rfl rfl rfl) ?_
  refine Pstep.go (st_loadP rfl rfl rfl on70 rfl) ?_
  refine Pstep.go (st_lenMap rfl Try.underlying70 rfl) ?_
  refine Pstep.go (st_lss rfl rfl rfl) ?_
  refine o_nil ?_
  refine a_if rfl (fun h13 => ?_) (fun h13 => ?_)
  · have hk3 : acc2.length < p.it.length := lt_cast h13
    refine a_skip ?_
    refine a_seq ?_
    refine a_block ?_
    refine a_drawn [[], [0], [], [2], [], [2, 3, 4], [2, 3, 4, 5], [2, 3, 4, 5, 6], [2, 3, 4, 5, 6, 7], [0, 1, 2, 3, 4, 5, 6, 7, 8], [0, 1, 2, 3, 4, 5, 6, 7, 8, 9], [0, 1, 2, 3, 4, 5, 6, 7, 8, 9, 10]] mixed rfl ?_
    refine dws ?_
    refine d_pure [3] [] rfl rfl (fun _ => gp_none (st_fieldP rfl fi67_1 rfl rfl rfl)) ?_
    refine d_pureA [16] rfl rfl (fun _ => gp_none (st_loadP rfl rfl rfl on65 rfl)) ?_
    refine d_pure [1] [] rfl rfl (fun _ => gp_none (st_fieldP rfl fi72_1 rfl rfl rfl)) ?_
    refine d_pureA [18] rfl rfl (fun _ => gp_none (st_loadP rfl rfl rfl on70 rfl)) ?_
    refine d_pure [4] [] rfl rfl (fun _ => gp_none (st_move rfl rfl)) ?_
    have hgi := h3 _ (List.getElem_mem hk3)
    refine d_pure [19, 20] [] rfl rfl (fun _ => gp_none (st_indexD (acc2.length) rfl rfl (rfl) (getm hk3) Try.underlying70 rfl sz33 rfl)) ?_
    refine d_pure [21] [] rfl rfl (fun _ => gp_none (st_loadDS rfl rfl rw33 rfl)) ?_
    refine d_pure [22] [] rfl rfl (fun _ => gp_none (st_callP (backitem_p p.it[acc2.length] (by omega) (by omega) (by omega)) rfl rfl)) ?_
    refine d_eff [23] [51] [(24, _)] rfl rfl (fun _ => ge_none (st_buildSlice 51 sl65 rfl rfl rfl rfl rfl rfl rfl rfl)) (.inr ⟨24, _, rfl, rfl, rfl, rfl, rfl⟩) rfl rfl rfl rfl rfl ?_
    refine dwc 9 rfl rfl rfl ?_
    refine dw1 10 rfl rfl ?_
    refine Estep.go (st_appM (acc2) ([p.it[acc2.length]]) rfl rfl rfl rfl rfl rfl rfl rfl sl65 (by simp only [List.length_singleton]; omega) rfl rfl rfl rfl) ?_
    refine o_nil ⟨rfl, ?_⟩
    refine dw1 11 rfl rfl ?_
    refine Pstep.go (st_fieldP rfl fi67_1 rfl rfl rfl) ?_
    refine o_nil ⟨rfl, ?_⟩
    refine dw1 12 rfl rfl ?_
    refine Estep.go (st_storeP rfl rfl rfl rfl rfl rfl rfl sz65) ?_
    refine o_nil ⟨rfl, ?_⟩
    refine dwe ?_
    refine a_region ?_
    refine Pstep.go (st_move rfl rfl) ?_
    refine Pstep.go (st_add rfl rfl (wrapA acc2 p.it[acc2.length] (by omega)) rfl) ?_
    refine Pstep.go (st_assign rfl rfl) ?_
    refine o_nil ?_
    exact ⟨acc2 ++ [p.it[acc2.length]], ⟨tk_next hJ hk3, by rw [List.length_append]; show acc2.length + 1 ≤ _; omega⟩, by rw [List.length_append]; show p.it.length - (acc2.length + 1) < p.it.length - acc2.length; omega, lep_of hF [902, 1, 2, 3] rfl (rfl) ⟨rfl, rfl, rfl, rfl, trivial⟩⟩
  · refine a_exit ?_
    refine a_seq ?_
    have hacc2 := tk_end hJ (fun h => h13 (by omega))
    refine a_freezeC (ys := p.it.map itmD) 3 0 1 902 rfl rfl rfl (by simp) (by rw [hacc2]; exact List.take_of_length_le (by simp)) rfl rfl rfl rfl rfl rfl ?_
    refine a_region ?_
    refine Pstep.go (st_loadPS rfl rfl rw67 rfl rfl rfl) ?_
    refine Estep.go (st_storeP rfl rfl rfl rfl rfl rfl rfl sz67) ?_
    refine o_nil ?_
    refine a_ret ?_
    exact ⟨_, [], [], res_of rfl, rfl, rfl, rfl, rfl⟩
end Go.Proofs.Ytfmpiabmnjmobaa
