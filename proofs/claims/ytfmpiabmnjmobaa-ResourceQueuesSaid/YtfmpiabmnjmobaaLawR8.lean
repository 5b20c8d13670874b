/- Layer 28: the law of queues. -/
import Derived.Test.YtfmpiabmnjmobaaRes9
import Derived.Test.YtfmpiabmnjmobaaLawR7
namespace Go.Proofs.Ytfmpiabmnjmobaa
open Go.RowKit

/-- The item that the reference finds is the program's. -/
theorem item_found {p : Prb} (h : prbE p = 0) (id : Int) : (itemF (sortO p.it) id).2 = decide (0 ≤ ixI id (p.it.map Itm.id)) ∧ ((itemF (sortO p.it) id).2 = true →
    ∃ hk : (p.it.map Itm.id).idxOf id < p.it.length, ixI id (p.it.map Itm.id) = (((p.it.map Itm.id).idxOf id : Nat) : Int) ∧ (itemF (sortO p.it) id).1 = p.it[(p.it.map Itm.id).idxOf id]) := by
  have hn := items_ids (prb_ok h).2.1
  have hm : id ∈ (sortO p.it).map Itm.id ↔ id ∈ p.it.map Itm.id := ((sortO_perm p.it).map Itm.id).mem_iff
  by_cases hi : id ∈ p.it.map Itm.id
  · obtain ⟨x, hx, hxi, hf⟩ := itemF_mem (hm.2 hi)
    have hx' : x ∈ p.it := (sortO_perm p.it).mem_iff.1 hx
    have hix : ixI id (p.it.map Itm.id) = (((p.it.map Itm.id).idxOf id : Nat) : Int) := if_pos hi
    rw [hf]
    refine ⟨by simp only; rw [hix]; exact (decide_eq_true (by omega)).symm, fun _ => ?_⟩
    have hk : (p.it.map Itm.id).idxOf id < (p.it.map Itm.id).length := List.idxOf_lt_length_iff.2 hi
    have hk' : (p.it.map Itm.id).idxOf id < p.it.length := by simpa using hk
    refine ⟨hk', hix, ids_inj hn hx' (List.getElem_mem hk') ?_⟩
    have h1 := List.getElem_idxOf hk
    rw [List.getElem_map] at h1
    rw [hxi]; exact h1.symm
  · have hf := itemF_no (l := sortO p.it) (fun h => hi (hm.1 h))
    rw [hf]
    refine ⟨?_, fun h => (by cases h)⟩
    show false = _
    rw [show ixI id (p.it.map Itm.id) = -1 from if_neg hi]; rfl
set_option maxRecDepth 100000 in
theorem lawR8_p (p : Prb) (r : Rsc) (id : Int) : PCalls Try.prog 8 [.d (prbD p), .d (rscD r), .d (intD id)] (.raw (.bool true)) := by
  have hk := known_p
  have hs := small_p p
  by_cases hf : Sml p
  · rw [decide_eq_true hf] at hs
    have hb := sml_B hf
    have c1 := own_p p hf
    have cr := ownres_p r
    have co := order_ids_p p hb
    have cq := queue_p p r hb
    have ci := item_p p id hb
    have cm := room_p p r hb
    have cc := refpcheck_p p (by have := hf.2.1; omega) (by have := hf.1; omega) (fun i hi => by have := hf.2.2 i hi; omega)
    by_cases hE : prbE p = 0
    · have hO : ordP p = sortO p.it := if_pos hE
      have hR : roomE p r = roomV p.ro r := if_pos hE
      have hfd := item_found hE id
      have hl12 := hf.1
      have hl24 := hf.2.1
      have g3 : ∀ i ∈ sortO p.it, i.po.length ≤ 1000 ∧ i.pa.length ≤ 1000 ∧ i.af.length ≤ 1000 := fun i hi => by have := hf.2.2 i ((sortO_perm p.it).mem_iff.1 hi); omega
      have c2 := refsorted_p p.it (by omega)
      have c3 := refqueue_p p r (by omega) g3
      have c4 := find_p p id (by omega)
      have hSl : (sortO p.it).length ≤ 12 := by rw [sortO_len]; exact hl12
      have hgi : (itemF (sortO p.it) id).2 = true → (itemF (sortO p.it) id).1.po.length ≤ 12 ∧ (itemF (sortO p.it) id).1.pa.length ≤ 12 ∧ (itemF (sortO p.it) id).1.af.length ≤ 12 := fun h => by
        obtain ⟨hk, _, he⟩ := hfd.2 h
        rw [he]; exact hf.2.2 _ (List.getElem_mem hk)
      have hql : (qIds (sortO p.it) r).length ≤ 12 := by unfold qIds; rw [List.length_map]; exact Nat.le_trans (List.length_filter_le _ _) hSl
      rw [hO] at co cq ci
      rw [hR] at cm
      rw [hE] at cc
      obtain ⟨k0, hk0⟩ : ∃ k0, (p.it.map Itm.id).idxOf id = k0 := ⟨_, rfl⟩
      rw [hk0] at hfd
      obtain ⟨S, hS⟩ : ∃ S, sortO p.it = S := ⟨_, rfl⟩
      rw [hS] at co cq ci hfd c2 c3 hSl hgi hql
      refine a_enter Try.func8 rfl rfl Try.ntmps8 rfl rfl rfl fun F hF => ?_
      refine a_seq ?_
      refine a_region ?_
      refine Estep.go (st_box 1 rfl rfl rfl rfl rfl rfl rfl) ?_
      refine Estep.go (st_box 2 rfl rfl rfl rfl rfl rfl rfl) ?_
      refine Pstep.go (st_assign rfl rfl) ?_
      refine o_nil ?_
      refine a_seq ?_
      refine a_seq ?_
      refine a_region ?_
      refine Pstep.go (st_callP (hk) rfl rfl) ?_
      refine Pstep.go (st_not rfl rfl) ?_
      refine Pstep.go (st_move rfl rfl) ?_
      refine o_setF 21 rfl (rfl) ?_
      refine o_run rfl rfl rfl ?_
      refine Pstep.go (st_loadPS rfl rfl rw67 rfl rfl rfl) ?_
      refine o_run rfl rfl rfl ?_
      refine Pstep.go (st_callP (hs) rfl rfl) ?_
      refine o_run rfl rfl rfl ?_
      refine Pstep.go (st_not rfl rfl) ?_
      refine Pstep.go (st_pickF rfl rfl rfl rfl) ?_
      refine o_nil ?_
      refine a_false rfl (rfl) ?_
      refine a_skip ?_
      refine a_seq ?_
      refine a_region ?_
      refine Pstep.go (st_loadPS rfl rfl rw67 rfl rfl rfl) ?_
      refine Pstep.go (st_callP (c1) rfl rfl) ?_
      refine Estep.go (st_alloc 3 zl72 rfl rfl rfl rfl) ?_
      refine Estep.go (st_storeP rfl rfl rfl rfl rfl rfl rfl sz72) ?_
      refine o_nil ?_
      refine a_seq ?_
      refine a_drawn [[], [0], [], [], [0, 1, 3], [0, 1, 2, 3, 4], [0, 1, 2, 3, 4, 5], [0, 1, 2, 3, 4, 5, 6]] mixed rfl ?_
      refine dws ?_
      refine d_pureA [7] rfl rfl (fun _ => gp_none (st_loadPS rfl rfl rw72 rfl rfl rfl)) ?_
      refine d_pure [29] [] rfl rfl (fun _ => gp_none (st_callP (co) rfl rfl)) ?_
      refine d_pureA [7] rfl rfl (fun _ => gp_none (st_loadPS rfl rfl rw72 rfl rfl rfl)) ?_
      refine d_pureA [4] rfl rfl (fun _ => gp_none (st_loadPS rfl rfl rw48 rfl rfl rfl)) ?_
      refine d_pure [32] [] rfl rfl (fun _ => gp_none (st_callP (cr) rfl rfl)) ?_
      refine dwc 5 rfl rfl rfl ?_
      refine dw1 6 rfl rfl ?_
      refine Pstep.go (st_callP (cq) rfl rfl) ?_
      refine o_nil ⟨rfl, ?_⟩
      refine dw1 7 rfl rfl ?_
      refine Pstep.go (st_assign rfl rfl) ?_
      refine o_nil ⟨rfl, ?_⟩
      refine dw1 8 rfl rfl ?_
      refine Pstep.go (st_assign rfl rfl) ?_
      refine o_nil ⟨rfl, ?_⟩
      refine dwe ?_
      refine a_seq ?_
      refine a_region ?_
      refine Pstep.go (st_loadPS rfl rfl rw72 rfl rfl rfl) ?_
      refine Pstep.go (st_move rfl rfl) ?_
      refine Pstep.go (st_callP (ci) rfl rfl) ?_
      refine Pstep.go (st_move rfl rfl) ?_
      refine Pstep.go (st_extractD rfl rfl rfl) ?_
      refine Pstep.go (st_extractD rfl rfl rfl) ?_
      refine Estep.go (st_alloc 4 zl33 rfl rfl rfl rfl) ?_
      refine Estep.go (st_storeP rfl rfl rfl rfl rfl rfl rfl sz33) ?_
      refine Pstep.go (st_assign rfl rfl) ?_
      refine o_nil ?_
      refine a_seq ?_
      refine a_drawn [[], [], [1], [0, 1, 2], [0, 1, 2, 3], [0, 1, 2, 3, 4], [0, 1, 2, 3, 4], [0, 1, 2, 3, 4, 5], [0, 1, 2, 3, 4, 5, 6, 7]] mixed rfl ?_
      refine dws ?_
      refine d_pureA [7] rfl rfl (fun _ => gp_none (st_loadPS rfl rfl rw72 rfl rfl rfl)) ?_
      refine d_pureA [4] rfl rfl (fun _ => gp_none (st_loadPS rfl rfl rw48 rfl rfl rfl)) ?_
      refine d_pure [43] [] rfl rfl (fun _ => gp_none (st_callP (cr) rfl rfl)) ?_
      refine dwc 3 rfl rfl rfl ?_
      refine dw1 4 rfl rfl ?_
      refine Pstep.go (st_callP (cm) rfl rfl) ?_
      refine o_nil ⟨rfl, ?_⟩
      refine dw1 5 rfl rfl ?_
      refine Pstep.go (st_move rfl rfl) ?_
      refine o_nil ⟨rfl, ?_⟩
      refine dws ?_
      refine d_pure [41] [] rfl rfl (fun _ => gp_none (st_extractD rfl rfl rfl)) ?_
      refine d_pure [41] [] rfl rfl (fun _ => gp_none (st_extractD rfl rfl rfl)) ?_
      refine d_pure [46] [] rfl rfl (fun _ => gp_none (st_assign rfl rfl)) ?_
      refine dwc 8 rfl rfl rfl ?_
      refine dw1 9 rfl rfl ?_
      refine Pstep.go (st_assign rfl rfl) ?_
      refine o_nil ⟨rfl, ?_⟩
      refine dwe ?_
      refine a_seq ?_
      refine a_seq ?_
      refine a_region ?_
      refine Pstep.go (st_loadPS rfl rfl rw67 rfl rfl rfl) ?_
      refine Pstep.go (st_callP (cc) rfl rfl) ?_
      refine Pstep.go (st_neq rfl rfl rfl) ?_
      refine o_nil ?_
      refine a_false rfl ((by decide)) ?_
      refine a_skip ?_
      refine a_seq ?_
      refine a_region ?_
      refine Pstep.go (st_assign rfl rfl) ?_
      refine o_nil ?_
      refine a_seq ?_
      refine a_region ?_
      refine Pstep.go (st_fieldP rfl fi67_1 rfl rfl rfl) ?_
      refine Pstep.go (st_loadP rfl rfl rfl on65 rfl) ?_
      refine Pstep.go (st_callP (c2) rfl rfl) ?_
      refine Pstep.go (st_assign rfl rfl) ?_
      refine o_nil ?_
      refine a_seq ?_
      refine a_seq ?_
      refine a_adopt 14 900 sl24 rfl rfl rfl rfl ?_
      refine a_region ?_
      refine Pstep.go (st_assign rfl rfl) ?_
      refine o_nil ?_
      refine a_block ?_
      refine a_loopP (α := Nat × List Int) (fun q => ⟨161, [(2, .d (intD id)), (3, (.ptr 1 0 0)), (4, (.ptr 2 0 0)), (8, (.d (.sl none ((S.map Itm.id).map intD)))), (9, (.d (.sl none ((qIds S r).map intD)))), (10, (.ptr 4 0 0)), (11, (.d (boolD (itemF S id).2))), (12, (.d (intD (roomV p.ro r).1))), (13, (.d (boolD (roomV p.ro r).2))), (14, (.own 900 0 q.2.length)), (15, (.d (.sl none (S.map itmD)))), (16, (.d (intD (q.1 : Int))))], [(900, [.rowD 3 1 (q.2.map intD)]), (1, [prbB2 67 p]), (2, [.blk 48 [.d (intD r.k), .d (strD r.acc.o), .d (intD r.acc.k), .d (strD r.acc.a), .d (strD r.f), .d (strD r.t)]]), (4, [itmB 33 (itemF S id).1])]⟩) (fun q => q.1 ≤ S.length ∧ q.2 = (S.take q.1).map Itm.id) (fun q => S.length - q.1) ((0, [])) (⟨Nat.zero_le _, rfl⟩) (lep_of hF [900, 1, 2, 4] rfl rfl ⟨rfl, rfl, rfl, rfl, rfl, rfl, rfl, rfl, rfl, rfl, rfl, rfl, trivial⟩) ?_
      rintro ⟨k, acc⟩ ⟨hk1, hA⟩
      dsimp only at hk1 hA ⊢
      refine a_seq ?_
      refine a_seq ?_
      refine a_region ?_
      refine Pstep.go (st_move rfl rfl) ?_
      refine Pstep.go (st_move rfl rfl) ?_
      refine Pstep.go (st_lenMap rfl Try.underlying65 rfl) ?_
      refine Pstep.go (st_lss rfl rfl rfl) ?_
      refine o_nil ?_
      refine a_if rfl (fun h83 => ?_) (fun h83 => ?_)
      · have hk2 : k < S.length := lt_cast h83
        refine a_skip ?_
        refine a_seq ?_
        refine a_block ?_
        refine a_region ?_
        refine Pstep.go (st_move rfl rfl) ?_
        have hal : acc.length ≤ 100 := by rw [hA, List.length_map, List.length_take]; omega
        refine Pstep.go (st_move rfl rfl) ?_
        refine Pstep.go (st_move rfl rfl) ?_
        refine Pstep.go (st_indexD (k) rfl rfl (rfl) (getm hk2) Try.underlying65 rfl sz26 rfl) ?_
        refine Pstep.go (st_fieldF1 rfl fi26_0 rfl rfl rfl) ?_
        refine Pstep.go (st_loadD1 rfl rfl on3 rfl) ?_
        refine Estep.go (st_buildSlice 5 sl24 rfl rfl rfl rfl rfl rfl rfl rfl) ?_
        refine Estep.go (st_appM (acc) ([S[k].id]) rfl rfl rfl rfl rfl rfl rfl rfl sl24 (by simp only [List.length_singleton]; omega) rfl rfl rfl rfl) ?_
        refine Pstep.go (st_assign rfl rfl) ?_
        refine o_nil ?_
        refine a_region ?_
        refine Pstep.go (st_move rfl rfl) ?_
        refine Pstep.go (st_add rfl rfl (wrapS (k + 1) (by omega)) rfl) ?_
        refine Pstep.go (st_assign rfl rfl) ?_
        refine o_nil ?_
        exact ⟨(k + 1, _), ⟨by show k + 1 ≤ _; omega, by show _ = (S.take (k + 1)).map Itm.id; rw [tk_map hk2, ← hA]⟩, by show S.length - (k + 1) < S.length - k; omega, lep_of hF [900, 1, 2, 4] rfl (rfl) ⟨rfl, rfl, rfl, rfl, rfl, rfl, rfl, rfl, rfl, rfl, rfl, rfl, trivial⟩⟩
      · refine a_exit ?_
        refine a_seq ?_
        have hacc : acc = S.map Itm.id := by rw [hA, List.take_of_length_le (by have h := h83; omega)]
        refine a_freezeM (emb := intD) 14 900 acc rfl rfl rfl rfl rfl rfl rfl ?_
        refine a_region ?_
        refine Pstep.go (st_loadPS rfl rfl rw67 rfl rfl rfl) ?_
        refine Pstep.go (st_move rfl rfl) ?_
        refine Pstep.go (st_callP (c4) rfl rfl) ?_
        refine Pstep.go (st_assign rfl rfl) ?_
        refine o_nil ?_
        refine a_seq ?_
        refine a_seq ?_
        refine a_drawn [[], [], [0, 1], [0, 1, 2], [0, 1, 2, 3], [0, 1, 2, 3, 4], [0, 1, 2, 3, 4], [0, 1, 2, 3, 4], [0, 1, 2, 3, 4, 6, 7], [0, 1, 2, 3, 4, 5, 6, 7, 8], [0, 1, 2, 3, 4, 5, 6, 7, 8, 9], [0, 1, 2, 3, 4, 5, 6, 7, 8, 9, 10], [0, 1, 2, 3, 4, 5, 6, 7, 8, 9, 10, 11], [0, 1, 2, 3, 4, 5, 6, 7, 8, 9, 10, 11, 12], [0, 1, 2, 3, 4, 5, 6, 7, 8, 9, 10, 11, 12], [0, 1, 2, 3, 4, 5, 6, 7, 8, 9, 10, 11, 12, 14], [0, 1, 2, 3, 4, 5, 6, 7, 8, 9, 10, 11, 12, 13, 14, 15], [0, 1, 2, 3, 4, 5, 6, 7, 8, 9, 10, 11, 12, 13, 14, 15, 16], [0, 1, 2, 3, 4, 5, 6, 7, 8, 9, 10, 11, 12, 13, 14, 15, 16, 17], [0, 1, 2, 3, 4, 5, 6, 7, 8, 9, 10, 11, 12, 13, 14, 15, 16, 17, 18], [0, 1, 2, 3, 4, 5, 6, 7, 8, 9, 10, 11, 12, 13, 14, 15, 16, 17, 18, 19], [0, 1, 2, 3, 4, 5, 6, 7, 8, 9, 10, 11, 12, 13, 14, 15, 16, 17, 18, 19, 20], [0, 1, 2, 3, 4, 5, 6, 7, 8, 9, 10, 11, 12, 13, 14, 15, 16, 17, 18, 19, 20, 21], [0, 1, 2, 3, 4, 5, 6, 7, 8, 9, 10, 11, 12, 13, 14, 15, 16, 17, 18, 19, 20], [0, 1, 2, 3, 4, 5, 6, 7, 8, 9, 10, 11, 12, 13, 14, 15, 16, 17, 18, 19, 20, 23], [0, 1, 2, 3, 4, 5, 6, 7, 8, 9, 10, 11, 12, 13, 14, 15, 16, 17, 18, 19, 20], [0, 1, 2, 3, 4, 5, 6, 7, 8, 9, 10, 11, 12, 13, 14, 15, 16, 17, 18, 19, 20, 23, 24, 25], [0, 1, 2, 3, 4, 5, 6, 7, 8, 9, 10, 11, 12, 13, 14, 15, 16, 17, 18, 19, 20, 23, 24, 25, 26], [0, 1, 2, 3, 4, 5, 6, 7, 8, 9, 10, 11, 12, 13, 14, 15, 16, 17, 18, 19, 20, 21, 22, 23, 24, 25, 26, 27], [0, 1, 2, 3, 4, 5, 6, 7, 8, 9, 10, 11, 12, 13, 14, 15, 16, 17, 18, 19, 20, 21, 22, 23, 24, 25, 26, 27, 28], [0, 1, 2, 3, 4, 5, 6, 7, 8, 9, 10, 11, 12, 13, 14, 15, 16, 17, 18, 19, 20, 21, 22, 23, 24, 25, 26, 27, 28, 29], [0, 1, 2, 3, 4, 5, 6, 7, 8, 9, 10, 11, 12, 13, 14, 15, 16, 17, 18, 19, 20, 21, 22, 23, 24, 25, 26, 27, 28, 29, 30]] mixed rfl ?_
        refine dws ?_
        refine d_pure [8] [] rfl rfl (fun _ => gp_none (st_move rfl rfl)) ?_
        refine d_pure [14] [] rfl rfl (fun _ => gp_none (st_move rfl rfl)) ?_
        refine dwc 2 rfl rfl rfl ?_
        refine dw1 3 rfl rfl ?_
        refine Pstep.go (st_callP (ints_p (S.map Itm.id) acc (by rw [List.length_map]; omega)) rfl rfl) ?_
        refine o_nil ⟨rfl, ?_⟩
        refine dw1 4 rfl rfl ?_
        refine Pstep.go (st_notP rfl rfl) ?_
        refine o_nil ⟨rfl, ?_⟩
        refine dw1 5 rfl rfl ?_
        refine Pstep.go (st_move rfl rfl) ?_
        refine o_setF 101 rfl ((decide_eq_false (by rw [hacc]; simp))) ?_
        refine o_nil ⟨rfl, ?_⟩
        refine dws ?_
        refine d_pure [9, 101] [] rfl rfl (fun _ => gp_run rfl rfl rfl (st_move rfl rfl)) ?_
        refine d_pureA [3, 101] rfl rfl (fun _ => gp_run rfl rfl rfl (st_loadPS rfl rfl rw67 rfl rfl rfl)) ?_
        refine d_pureA [4, 101] rfl rfl (fun _ => gp_run rfl rfl rfl (st_loadPS rfl rfl rw48 rfl rfl rfl)) ?_
        refine d_pure [103, 104, 101] [] rfl rfl (fun _ => gp_run rfl rfl rfl (st_callP (c3) rfl rfl)) ?_
        refine dwc 9 rfl rfl rfl ?_
        refine dw1 10 rfl rfl ?_
        refine o_run rfl rfl rfl ?_
        refine Pstep.go (st_callP (ints_p (qIds S r) (qIds S r) (by omega)) rfl rfl) ?_
        refine o_nil ⟨rfl, ?_⟩
        refine dw1 11 rfl rfl ?_
        refine o_run rfl rfl rfl ?_
        refine Pstep.go (st_notP rfl rfl) ?_
        refine o_nil ⟨rfl, ?_⟩
        refine dw1 12 rfl rfl ?_
        refine Pstep.go (st_pickF rfl rfl rfl rfl) ?_
        refine o_nil ⟨rfl, ?_⟩
        refine dw1 13 rfl rfl ?_
        refine Pstep.go (st_move rfl rfl) ?_
        refine o_setF 109 rfl ((decide_eq_false (by simp))) ?_
        refine o_nil ⟨rfl, ?_⟩
        refine dws ?_
        refine d_pure [11, 109] [] rfl rfl (fun _ => gp_run rfl rfl rfl (st_move rfl rfl)) ?_
        refine d_pure [17, 109] [] rfl rfl (fun _ => gp_run rfl rfl rfl (st_move rfl rfl)) ?_
        refine d_pure [111, 109] [] rfl rfl (fun _ => gp_run rfl rfl rfl (st_geq rfl rfl rfl)) ?_
        refine dwc 16 rfl rfl rfl ?_
        refine dw1 17 rfl rfl ?_
        refine o_run rfl rfl rfl ?_
        refine Pstep.go (st_neqB Try.underlying4 rfl rfl rfl) ?_
        refine o_nil ⟨rfl, ?_⟩
        refine dw1 18 rfl rfl ?_
        refine Pstep.go (st_pickF rfl rfl rfl rfl) ?_
        refine o_nil ⟨rfl, ?_⟩
        refine dw1 19 rfl rfl ?_
        refine Pstep.go (st_move rfl rfl) ?_
        refine o_setF 115 rfl ((decide_eq_false (by rw [hfd.1]; simp))) ?_
        refine o_nil ⟨rfl, ?_⟩
        refine dw1 20 rfl rfl ?_
        refine o_run rfl rfl rfl ?_
        refine Pstep.go (st_move rfl rfl) ?_
        refine o_nil ⟨rfl, ?_⟩
        refine dw1 21 rfl rfl ?_
        refine o_run rfl rfl rfl ?_
        refine Pstep.go (st_move rfl rfl) ?_
        refine o_splitB 117 rfl (fun h117 => ?_) (fun h117 => ?_)
        · refine o_nil ⟨rfl, ?_⟩
          refine dws ?_
          refine d_pureA [10, 117] rfl rfl (fun _ => gp_run rfl rfl rfl (st_loadPS rfl rfl rw33 rfl rfl rfl)) ?_
          try have hgj := hgi h117
          try have hfk := (hfd.2 h117).1
          try have hfx : ixI id (p.it.map Itm.id) = (k0 : Int) ∧ (itemF S id).1 = p.it[k0] := (hfd.2 h117).2
          refine d_pure [118, 117] [] rfl rfl (fun _ => gp_run rfl rfl rfl (st_callP (backitem_p (itemF S id).1 (by omega) (by omega) (by omega)) rfl rfl)) ?_
          refine d_pure [3, 117] [] rfl rfl (fun _ => gp_run rfl rfl rfl (st_fieldP rfl fi67_1 rfl rfl rfl)) ?_
          refine d_pureA [120, 117] rfl rfl (fun _ => gp_run rfl rfl rfl (st_loadP rfl rfl rfl on65 rfl)) ?_
          refine d_pure [17, 117] [] rfl rfl (fun _ => gp_run rfl rfl rfl (st_move rfl rfl)) ?_
          refine d_pure [121, 122, 117] [] rfl rfl (fun _ => gp_run rfl rfl rfl (st_indexD (k0) rfl rfl (hfx.1) (getm hfk) Try.underlying65 rfl sz26 rfl)) ?_
          refine d_pure [123, 117] [] rfl rfl (fun _ => gp_run rfl rfl rfl (st_loadDS rfl rfl rw26 rfl)) ?_
          refine dwc 28 rfl rfl rfl ?_
          refine dw1 29 rfl rfl ?_
          refine o_run rfl rfl rfl ?_
          refine Pstep.go (st_callP (sameitem_p (itemF S id).1 p.it[k0] (by omega) (by omega) (by omega)) rfl rfl) ?_
          refine o_nil ⟨rfl, ?_⟩
          refine dw1 30 rfl rfl ?_
          refine o_run rfl rfl rfl ?_
          refine Pstep.go (st_notP rfl rfl) ?_
          refine o_nil ⟨rfl, ?_⟩
          refine dw1 31 rfl rfl ?_
          refine o_run rfl rfl rfl ?_
          refine Pstep.go (st_pickT rfl rfl rfl rfl) ?_
          refine o_nil ⟨rfl, ?_⟩
          refine dw1 32 rfl rfl ?_
          refine Pstep.go (st_pickF rfl rfl rfl rfl) ?_
          refine o_nil ⟨rfl, ?_⟩
          refine dwe ?_
          refine a_false rfl ((decide_eq_false (by rw [hfx.2]; simp))) ?_
          refine a_skip ?_
          refine a_seq ?_
          refine a_seq ?_
          refine a_region ?_
          refine Pstep.go (st_assign rfl rfl) ?_
          refine o_nil ?_
          refine a_block ?_
          refine a_loopP (α := Nat) (fun k => ⟨161, [(3, (.ptr 1 0 0)), (4, (.ptr 2 0 0)), (12, (.d (intD (roomV p.ro r).1))), (13, (.d (boolD (roomV p.ro r).2))), (18, (.d (intD (k : Int))))], [(1, [prbB2 67 p]), (2, [.blk 48 [.d (intD r.k), .d (strD r.acc.o), .d (intD r.acc.k), .d (strD r.acc.a), .d (strD r.f), .d (strD r.t)]])]⟩) (fun k => k ≤ p.ro.length ∧ r ∉ (p.ro.take k).map Roo.r) (fun k => p.ro.length - k) (0) (⟨Nat.zero_le _, by simp⟩) (lep_of hF [1, 2] rfl rfl ⟨rfl, rfl, rfl, rfl, rfl, trivial⟩) ?_
          rintro k ⟨hm0, hm⟩
          refine a_seq ?_
          refine a_seq ?_
          refine a_region ?_
          refine Pstep.go (st_move rfl rfl) ?_
          refine Pstep.go (st_fieldP rfl fi67_0 rfl rfl rfl) ?_
          refine Pstep.go (st_loadP rfl rfl rfl on58 rfl) ?_
          refine Pstep.go (st_lenMap rfl Try.underlying58 rfl) ?_
          refine Pstep.go (st_lss rfl rfl rfl) ?_
          refine o_nil ?_
          refine a_if rfl (fun h133 => ?_) (fun h133 => ?_)
          · have hm1 : k < p.ro.length := lt_cast h133
            refine a_skip ?_
            refine a_seq ?_
            refine a_block ?_
            refine a_seq ?_
            refine a_drawn [[], [0], [], [0, 1, 2], [0, 1, 2, 3], [0, 1, 2, 3, 4], [], [0, 1, 2, 3, 4, 5, 6]] mixed rfl ?_
            refine dws ?_
            refine d_pure [3] [] rfl rfl (fun _ => gp_none (st_fieldP rfl fi67_0 rfl rfl rfl)) ?_
            refine d_pureA [136] rfl rfl (fun _ => gp_none (st_loadP rfl rfl rfl on58 rfl)) ?_
            refine d_pure [18] [] rfl rfl (fun _ => gp_none (st_move rfl rfl)) ?_
            refine d_pure [137, 138] [] rfl rfl (fun _ => gp_none (st_indexD (k) rfl rfl (rfl) (getm hm1) Try.underlying58 rfl sz61 rfl)) ?_
            refine d_pure [139] [] rfl rfl (fun _ => gp_none (st_fieldFS rfl fi61_0 rfl rfl rfl)) ?_
            refine d_pure [140] [] rfl rfl (fun _ => gp_none (st_loadDS rfl rfl rw48 rfl)) ?_
            refine d_pureA [4] rfl rfl (fun _ => gp_none (st_loadPS rfl rfl rw48 rfl rfl rfl)) ?_
            refine dwc 7 rfl rfl rfl ?_
            refine dw1 8 rfl rfl ?_
            refine Pstep.go (st_eqlSt (la := rscC p.ro[k].r) (lb := rscC r) (ds := rscT) (by kernel_rfl) (by kernel_rfl) (by kernel_rfl) rfl rfl rfl rfl (rsc_plain _) (rsc_plain _) (rsc_eqC _ _) rfl) ?_
            refine o_nil ⟨rfl, ?_⟩
            refine dwe ?_
            refine a_if rfl (fun h143 => ?_) (fun h143 => ?_)
            · refine a_seq ?_
              refine a_region ?_
              refine Pstep.go (st_move rfl rfl) ?_
              refine Pstep.go (st_move rfl rfl) ?_
              refine o_setT 145 rfl ((by rw [roomV_at hm1 hm h143])) ?_
              refine o_run rfl rfl rfl ?_
              refine Pstep.go (st_move rfl rfl) ?_
              refine o_run rfl rfl rfl ?_
              refine Pstep.go (st_fieldP rfl fi67_0 rfl rfl rfl) ?_
              refine o_run rfl rfl rfl ?_
              refine Pstep.go (st_loadP rfl rfl rfl on58 rfl) ?_
              refine o_run rfl rfl rfl ?_
              refine Pstep.go (st_move rfl rfl) ?_
              refine o_run rfl rfl rfl ?_
              refine Pstep.go (st_indexD (k) rfl rfl (rfl) (getm hm1) Try.underlying58 rfl sz61 rfl) ?_
              refine o_run rfl rfl rfl ?_
              refine Pstep.go (st_fieldF1 rfl fi61_1 rfl rfl rfl) ?_
              refine o_run rfl rfl rfl ?_
              refine Pstep.go (st_loadD1 rfl rfl on2 rfl) ?_
              refine o_run rfl rfl rfl ?_
              refine Pstep.go (st_eql rfl rfl rfl) ?_
              refine Pstep.go (st_pickT rfl rfl rfl rfl) ?_
              refine Pstep.go (st_assign rfl rfl) ?_
              refine o_nil ?_
              refine a_ret ?_
              exact ⟨_, [], [], res_of rfl, rfl, rfl, retB' (by rw [roomV_at hm1 hm h143]; simp), rfl⟩
            · refine a_skip ?_
              refine a_region ?_
              refine Pstep.go (st_move rfl rfl) ?_
              refine Pstep.go (st_add rfl rfl (wrapS (k + 1) (by omega)) rfl) ?_
              refine Pstep.go (st_assign rfl rfl) ?_
              refine o_nil ?_
              exact ⟨k + 1, ⟨by show k + 1 ≤ _; omega, nmem_next hm1 hm h143⟩, by show p.ro.length - (k + 1) < p.ro.length - k; omega, lep_of hF [1, 2] rfl (rfl) ⟨rfl, rfl, rfl, rfl, rfl, trivial⟩⟩
          · refine a_exit ?_
            refine a_seq ?_
            have hno : roomV p.ro r = (0, false) := roomV_no (by rw [List.take_of_length_le (by have h := h133; omega)] at hm; exact hm)
            refine a_region ?_
            refine Pstep.go (st_move rfl rfl) ?_
            refine Pstep.go (st_not rfl rfl) ?_
            refine Pstep.go (st_move rfl rfl) ?_
            refine o_setT 157 rfl ((by rw [hno]; rfl)) ?_
            refine o_run rfl rfl rfl ?_
            refine Pstep.go (st_move rfl rfl) ?_
            refine o_run rfl rfl rfl ?_
            refine Pstep.go (st_eql rfl rfl rfl) ?_
            refine Pstep.go (st_pickT rfl rfl rfl rfl) ?_
            refine Pstep.go (st_assign rfl rfl) ?_
            refine o_nil ?_
            refine a_ret ?_
            exact ⟨_, [], [], res_of rfl, rfl, rfl, retB' (by rw [hno]; simp), rfl⟩
        · refine o_nil ⟨rfl, ?_⟩
          refine dws ?_
          refine d_pure [10, 117] [] rfl rfl (fun _ => gp_pass rfl rfl rfl rfl) ?_
          try have hgj := hgi h117
          try have hfk := (hfd.2 h117).1
          try have hfx : ixI id (p.it.map Itm.id) = (k0 : Int) ∧ (itemF S id).1 = p.it[k0] := (hfd.2 h117).2
          refine d_pure [118, 117] [] rfl rfl (fun _ => gp_pass rfl rfl rfl rfl) ?_
          refine d_pure [3, 117] [] rfl rfl (fun _ => gp_pass rfl rfl rfl rfl) ?_
          refine d_pure [120, 117] [] rfl rfl (fun _ => gp_pass rfl rfl rfl rfl) ?_
          refine d_pure [17, 117] [] rfl rfl (fun _ => gp_pass rfl rfl rfl rfl) ?_
          refine d_pure [121, 122, 117] [] rfl rfl (fun _ => gp_pass rfl rfl rfl rfl) ?_
          refine d_pure [123, 117] [] rfl rfl (fun _ => gp_pass rfl rfl rfl rfl) ?_
          refine dwc 28 rfl rfl rfl ?_
          refine dw1 29 rfl rfl ?_
          refine o_pass rfl rfl rfl rfl ?_
          refine o_nil ⟨rfl, ?_⟩
          refine dw1 30 rfl rfl ?_
          refine o_pass rfl rfl rfl rfl ?_
          refine o_nil ⟨rfl, ?_⟩
          refine dw1 31 rfl rfl ?_
          refine o_run rfl rfl rfl ?_
          refine Pstep.go (st_pickF rfl rfl rfl rfl) ?_
          refine o_nil ⟨rfl, ?_⟩
          refine dw1 32 rfl rfl ?_
          refine Pstep.go (st_pickF rfl rfl rfl rfl) ?_
          refine o_nil ⟨rfl, ?_⟩
          refine dwe ?_
          refine a_false rfl rfl ?_
          refine a_skip ?_
          refine a_seq ?_
          refine a_seq ?_
          refine a_region ?_
          refine Pstep.go (st_assign rfl rfl) ?_
          refine o_nil ?_
          refine a_block ?_
          refine a_loopP (α := Nat) (fun k => ⟨161, [(3, (.ptr 1 0 0)), (4, (.ptr 2 0 0)), (12, (.d (intD (roomV p.ro r).1))), (13, (.d (boolD (roomV p.ro r).2))), (18, (.d (intD (k : Int))))], [(1, [prbB2 67 p]), (2, [.blk 48 [.d (intD r.k), .d (strD r.acc.o), .d (intD r.acc.k), .d (strD r.acc.a), .d (strD r.f), .d (strD r.t)]])]⟩) (fun k => k ≤ p.ro.length ∧ r ∉ (p.ro.take k).map Roo.r) (fun k => p.ro.length - k) (0) (⟨Nat.zero_le _, by simp⟩) (lep_of hF [1, 2] rfl rfl ⟨rfl, rfl, rfl, rfl, rfl, trivial⟩) ?_
          rintro k ⟨hm0, hm⟩
          refine a_seq ?_
          refine a_seq ?_
          refine a_region ?_
          refine Pstep.go (st_move rfl rfl) ?_
          refine Pstep.go (st_fieldP rfl fi67_0 rfl rfl rfl) ?_
          refine Pstep.go (st_loadP rfl rfl rfl on58 rfl) ?_
          refine Pstep.go (st_lenMap rfl Try.underlying58 rfl) ?_
          refine Pstep.go (st_lss rfl rfl rfl) ?_
          refine o_nil ?_
          refine a_if rfl (fun h133 => ?_) (fun h133 => ?_)
          · have hm1 : k < p.ro.length := lt_cast h133
            refine a_skip ?_
            refine a_seq ?_
            refine a_block ?_
            refine a_seq ?_
            refine a_drawn [[], [0], [], [0, 1, 2], [0, 1, 2, 3], [0, 1, 2, 3, 4], [], [0, 1, 2, 3, 4, 5, 6]] mixed rfl ?_
            refine dws ?_
            refine d_pure [3] [] rfl rfl (fun _ => gp_none (st_fieldP rfl fi67_0 rfl rfl rfl)) ?_
            refine d_pureA [136] rfl rfl (fun _ => gp_none (st_loadP rfl rfl rfl on58 rfl)) ?_
            refine d_pure [18] [] rfl rfl (fun _ => gp_none (st_move rfl rfl)) ?_
            refine d_pure [137, 138] [] rfl rfl (fun _ => gp_none (st_indexD (k) rfl rfl (rfl) (getm hm1) Try.underlying58 rfl sz61 rfl)) ?_
            refine d_pure [139] [] rfl rfl (fun _ => gp_none (st_fieldFS rfl fi61_0 rfl rfl rfl)) ?_
            refine d_pure [140] [] rfl rfl (fun _ => gp_none (st_loadDS rfl rfl rw48 rfl)) ?_
            refine d_pureA [4] rfl rfl (fun _ => gp_none (st_loadPS rfl rfl rw48 rfl rfl rfl)) ?_
            refine dwc 7 rfl rfl rfl ?_
            refine dw1 8 rfl rfl ?_
            refine Pstep.go (st_eqlSt (la := rscC p.ro[k].r) (lb := rscC r) (ds := rscT) (by kernel_rfl) (by kernel_rfl) (by kernel_rfl) rfl rfl rfl rfl (rsc_plain _) (rsc_plain _) (rsc_eqC _ _) rfl) ?_
            refine o_nil ⟨rfl, ?_⟩
            refine dwe ?_
            refine a_if rfl (fun h143 => ?_) (fun h143 => ?_)
            · refine a_seq ?_
              refine a_region ?_
              refine Pstep.go (st_move rfl rfl) ?_
              refine Pstep.go (st_move rfl rfl) ?_
              refine o_setT 145 rfl ((by rw [roomV_at hm1 hm h143])) ?_
              refine o_run rfl rfl rfl ?_
              refine Pstep.go (st_move rfl rfl) ?_
              refine o_run rfl rfl rfl ?_
              refine Pstep.go (st_fieldP rfl fi67_0 rfl rfl rfl) ?_
              refine o_run rfl rfl rfl ?_
              refine Pstep.go (st_loadP rfl rfl rfl on58 rfl) ?_
              refine o_run rfl rfl rfl ?_
              refine Pstep.go (st_move rfl rfl) ?_
              refine o_run rfl rfl rfl ?_
              refine Pstep.go (st_indexD (k) rfl rfl (rfl) (getm hm1) Try.underlying58 rfl sz61 rfl) ?_
              refine o_run rfl rfl rfl ?_
              refine Pstep.go (st_fieldF1 rfl fi61_1 rfl rfl rfl) ?_
              refine o_run rfl rfl rfl ?_
              refine Pstep.go (st_loadD1 rfl rfl on2 rfl) ?_
              refine o_run rfl rfl rfl ?_
              refine Pstep.go (st_eql rfl rfl rfl) ?_
              refine Pstep.go (st_pickT rfl rfl rfl rfl) ?_
              refine Pstep.go (st_assign rfl rfl) ?_
              refine o_nil ?_
              refine a_ret ?_
              exact ⟨_, [], [], res_of rfl, rfl, rfl, retB' (by rw [roomV_at hm1 hm h143]; simp), rfl⟩
            · refine a_skip ?_
              refine a_region ?_
              refine Pstep.go (st_move rfl rfl) ?_
              refine Pstep.go (st_add rfl rfl (wrapS (k + 1) (by omega)) rfl) ?_
              refine Pstep.go (st_assign rfl rfl) ?_
              refine o_nil ?_
              exact ⟨k + 1, ⟨by show k + 1 ≤ _; omega, nmem_next hm1 hm h143⟩, by show p.ro.length - (k + 1) < p.ro.length - k; omega, lep_of hF [1, 2] rfl (rfl) ⟨rfl, rfl, rfl, rfl, rfl, trivial⟩⟩
          · refine a_exit ?_
            refine a_seq ?_
            have hno : roomV p.ro r = (0, false) := roomV_no (by rw [List.take_of_length_le (by have h := h133; omega)] at hm; exact hm)
            refine a_region ?_
            refine Pstep.go (st_move rfl rfl) ?_
            refine Pstep.go (st_not rfl rfl) ?_
            refine Pstep.go (st_move rfl rfl) ?_
            refine o_setT 157 rfl ((by rw [hno]; rfl)) ?_
            refine o_run rfl rfl rfl ?_
            refine Pstep.go (st_move rfl rfl) ?_
            refine o_run rfl rfl rfl ?_
            refine Pstep.go (st_eql rfl rfl rfl) ?_
            refine Pstep.go (st_pickT rfl rfl rfl rfl) ?_
            refine Pstep.go (st_assign rfl rfl) ?_
            refine o_nil ?_
            refine a_ret ?_
            exact ⟨_, [], [], res_of rfl, rfl, rfl, retB' (by rw [hno]; simp), rfl⟩
    · have hO : ordP p = [] := if_neg hE
      have hR : roomE p r = (0, false) := if_neg hE
      rw [hO] at co cq ci
      rw [hR] at cm
      refine a_enter Try.func8 rfl rfl Try.ntmps8 rfl rfl rfl fun F hF => ?_
      refine a_seq ?_
      refine a_region ?_
      refine Estep.go (st_box 1 rfl rfl rfl rfl rfl rfl rfl) ?_
      refine Estep.go (st_box 2 rfl rfl rfl rfl rfl rfl rfl) ?_
      refine Pstep.go (st_assign rfl rfl) ?_
      refine o_nil ?_
      refine a_seq ?_
      refine a_seq ?_
      refine a_region ?_
      refine Pstep.go (st_callP (hk) rfl rfl) ?_
      refine Pstep.go (st_not rfl rfl) ?_
      refine Pstep.go (st_move rfl rfl) ?_
      refine o_setF 21 rfl (rfl) ?_
      refine o_run rfl rfl rfl ?_
      refine Pstep.go (st_loadPS rfl rfl rw67 rfl rfl rfl) ?_
      refine o_run rfl rfl rfl ?_
      refine Pstep.go (st_callP (hs) rfl rfl) ?_
      refine o_run rfl rfl rfl ?_
      refine Pstep.go (st_not rfl rfl) ?_
      refine Pstep.go (st_pickF rfl rfl rfl rfl) ?_
      refine o_nil ?_
      refine a_false rfl (rfl) ?_
      refine a_skip ?_
      refine a_seq ?_
      refine a_region ?_
      refine Pstep.go (st_loadPS rfl rfl rw67 rfl rfl rfl) ?_
      refine Pstep.go (st_callP (c1) rfl rfl) ?_
      refine Estep.go (st_alloc 3 zl72 rfl rfl rfl rfl) ?_
      refine Estep.go (st_storeP rfl rfl rfl rfl rfl rfl rfl sz72) ?_
      refine o_nil ?_
      refine a_seq ?_
      refine a_drawn [[], [0], [], [], [0, 1, 3], [0, 1, 2, 3, 4], [0, 1, 2, 3, 4, 5], [0, 1, 2, 3, 4, 5, 6]] mixed rfl ?_
      refine dws ?_
      refine d_pureA [7] rfl rfl (fun _ => gp_none (st_loadPS rfl rfl rw72 rfl rfl rfl)) ?_
      refine d_pure [29] [] rfl rfl (fun _ => gp_none (st_callP (co) rfl rfl)) ?_
      refine d_pureA [7] rfl rfl (fun _ => gp_none (st_loadPS rfl rfl rw72 rfl rfl rfl)) ?_
      refine d_pureA [4] rfl rfl (fun _ => gp_none (st_loadPS rfl rfl rw48 rfl rfl rfl)) ?_
      refine d_pure [32] [] rfl rfl (fun _ => gp_none (st_callP (cr) rfl rfl)) ?_
      refine dwc 5 rfl rfl rfl ?_
      refine dw1 6 rfl rfl ?_
      refine Pstep.go (st_callP (cq) rfl rfl) ?_
      refine o_nil ⟨rfl, ?_⟩
      refine dw1 7 rfl rfl ?_
      refine Pstep.go (st_assign rfl rfl) ?_
      refine o_nil ⟨rfl, ?_⟩
      refine dw1 8 rfl rfl ?_
      refine Pstep.go (st_assign rfl rfl) ?_
      refine o_nil ⟨rfl, ?_⟩
      refine dwe ?_
      refine a_seq ?_
      refine a_region ?_
      refine Pstep.go (st_loadPS rfl rfl rw72 rfl rfl rfl) ?_
      refine Pstep.go (st_move rfl rfl) ?_
      refine Pstep.go (st_callP (ci) rfl rfl) ?_
      refine Pstep.go (st_move rfl rfl) ?_
      refine Pstep.go (st_extractD rfl rfl rfl) ?_
      refine Pstep.go (st_extractD rfl rfl rfl) ?_
      refine Estep.go (st_alloc 4 zl33 rfl rfl rfl rfl) ?_
      refine Estep.go (st_storeP rfl rfl rfl rfl rfl rfl rfl sz33) ?_
      refine Pstep.go (st_assign rfl rfl) ?_
      refine o_nil ?_
      refine a_seq ?_
      refine a_drawn [[], [], [1], [0, 1, 2], [0, 1, 2, 3], [0, 1, 2, 3, 4], [0, 1, 2, 3, 4], [0, 1, 2, 3, 4, 5], [0, 1, 2, 3, 4, 5, 6, 7]] mixed rfl ?_
      refine dws ?_
      refine d_pureA [7] rfl rfl (fun _ => gp_none (st_loadPS rfl rfl rw72 rfl rfl rfl)) ?_
      refine d_pureA [4] rfl rfl (fun _ => gp_none (st_loadPS rfl rfl rw48 rfl rfl rfl)) ?_
      refine d_pure [43] [] rfl rfl (fun _ => gp_none (st_callP (cr) rfl rfl)) ?_
      refine dwc 3 rfl rfl rfl ?_
      refine dw1 4 rfl rfl ?_
      refine Pstep.go (st_callP (cm) rfl rfl) ?_
      refine o_nil ⟨rfl, ?_⟩
      refine dw1 5 rfl rfl ?_
      refine Pstep.go (st_move rfl rfl) ?_
      refine o_nil ⟨rfl, ?_⟩
      refine dws ?_
      refine d_pure [41] [] rfl rfl (fun _ => gp_none (st_extractD rfl rfl rfl)) ?_
      refine d_pure [41] [] rfl rfl (fun _ => gp_none (st_extractD rfl rfl rfl)) ?_
      refine d_pure [46] [] rfl rfl (fun _ => gp_none (st_assign rfl rfl)) ?_
      refine dwc 8 rfl rfl rfl ?_
      refine dw1 9 rfl rfl ?_
      refine Pstep.go (st_assign rfl rfl) ?_
      refine o_nil ⟨rfl, ?_⟩
      refine dwe ?_
      refine a_seq ?_
      refine a_seq ?_
      refine a_region ?_
      refine Pstep.go (st_loadPS rfl rfl rw67 rfl rfl rfl) ?_
      refine Pstep.go (st_callP (cc) rfl rfl) ?_
      refine Pstep.go (st_neq rfl rfl rfl) ?_
      refine o_nil ?_
      refine a_true rfl ((decide_eq_true hE)) ?_
      refine a_seq ?_
      refine a_region ?_
      refine Pstep.go (st_move rfl rfl) ?_
      refine Pstep.go (st_lenMap rfl Try.underlying24 rfl) ?_
      refine Pstep.go (st_eql rfl rfl rfl) ?_
      refine Pstep.go (st_move rfl rfl) ?_
      refine o_setT 54 rfl (rfl) ?_
      refine o_run rfl rfl rfl ?_
      refine Pstep.go (st_move rfl rfl) ?_
      refine o_run rfl rfl rfl ?_
      refine Pstep.go (st_lenMap rfl Try.underlying24 rfl) ?_
      refine o_run rfl rfl rfl ?_
      refine Pstep.go (st_eql rfl rfl rfl) ?_
      refine Pstep.go (st_pickT rfl rfl rfl rfl) ?_
      refine Pstep.go (st_move rfl rfl) ?_
      refine o_setT 59 rfl (rfl) ?_
      refine o_run rfl rfl rfl ?_
      refine Pstep.go (st_move rfl rfl) ?_
      refine o_run rfl rfl rfl ?_
      refine Pstep.go (st_not rfl rfl) ?_
      refine Pstep.go (st_pickT rfl rfl rfl rfl) ?_
      refine Pstep.go (st_move rfl rfl) ?_
      refine o_setT 63 rfl (rfl) ?_
      refine o_run rfl rfl rfl ?_
      refine Pstep.go (st_move rfl rfl) ?_
      refine o_run rfl rfl rfl ?_
      refine Pstep.go (st_not rfl rfl) ?_
      refine Pstep.go (st_pickT rfl rfl rfl rfl) ?_
      refine Pstep.go (st_move rfl rfl) ?_
      refine o_setT 67 rfl (rfl) ?_
      refine o_run rfl rfl rfl ?_
      refine Pstep.go (st_move rfl rfl) ?_
      refine o_run rfl rfl rfl ?_
      refine Pstep.go (st_eql rfl rfl rfl) ?_
      refine Pstep.go (st_pickT rfl rfl rfl rfl) ?_
      refine Pstep.go (st_move rfl rfl) ?_
      refine o_setT 71 rfl (rfl) ?_
      refine o_run rfl rfl rfl ?_
      refine Pstep.go (st_loadPS rfl rfl rw33 rfl rfl rfl) ?_
      refine o_run rfl rfl rfl ?_
      refine Pstep.go (st_callP (backitem_p itm0 (by decide) (by decide) (by decide)) rfl rfl) ?_
      refine o_run rfl rfl rfl ?_
      refine Pstep.go (st_build zl26 pl26 rfl rfl rfl) ?_
      refine o_weakD 74 (itmD itm0) rfl itm0_weak ?_
      refine o_run rfl rfl rfl ?_
      refine Pstep.go (st_callP (sameitem_p itm0 itm0 (by decide) (by decide) (by decide)) rfl rfl) ?_
      refine Pstep.go (st_pickT rfl rfl rfl rfl) ?_
      refine Pstep.go (st_assign rfl rfl) ?_
      refine o_nil ?_
      refine a_ret ?_
      exact ⟨_, [], [], res_of rfl, rfl, rfl, retB' (by simp), rfl⟩
  · rw [decide_eq_false hf] at hs
    refine a_enter Try.func8 rfl rfl Try.ntmps8 rfl rfl rfl fun F hF => ?_
    refine a_seq ?_
    refine a_region ?_
    refine Estep.go (st_box 1 rfl rfl rfl rfl rfl rfl rfl) ?_
    refine Estep.go (st_box 2 rfl rfl rfl rfl rfl rfl rfl) ?_
    refine Pstep.go (st_assign rfl rfl) ?_
    refine o_nil ?_
    refine a_seq ?_
    refine a_seq ?_
    refine a_region ?_
    refine Pstep.go (st_callP (hk) rfl rfl) ?_
    refine Pstep.go (st_not rfl rfl) ?_
    refine Pstep.go (st_move rfl rfl) ?_
    refine o_setF 21 rfl (rfl) ?_
    refine o_run rfl rfl rfl ?_
    refine Pstep.go (st_loadPS rfl rfl rw67 rfl rfl rfl) ?_
    refine o_run rfl rfl rfl ?_
    refine Pstep.go (st_callP (hs) rfl rfl) ?_
    refine o_run rfl rfl rfl ?_
    refine Pstep.go (st_not rfl rfl) ?_
    refine Pstep.go (st_pickF rfl rfl rfl rfl) ?_
    refine o_nil ?_
    refine a_true rfl (rfl) ?_
    refine a_seq ?_
    refine a_region ?_
    refine Pstep.go (st_callP (hk) rfl rfl) ?_
    refine Pstep.go (st_assign rfl rfl) ?_
    refine o_nil ?_
    refine a_ret ?_
    exact ⟨_, [], [], res_of rfl, rfl, rfl, rfl, rfl⟩
end Go.Proofs.Ytfmpiabmnjmobaa
