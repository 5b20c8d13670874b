/- Layer 28: chosen sets; the rooms after a set has settled. -/
import Derived.Test.YtfmpiabmnjmobaaRes9
import Derived.Test.YtfmpiabmnjmobaaLawR7
namespace Go.Proofs.Ytfmpiabmnjmobaa
open Go.RowKit

def chErr (ids l : List Int) (k : Nat) : Int := if l.getD k 0 ∉ ids then 9 else if l.getD k 0 ∈ l.take k then 7 else 0
def setE (ids l : List Int) : Int := fst0 ((List.range l.length).map (chErr ids l))
def choE (p : Prb) (l : List Int) : Int := if prbE p ≠ 0 then prbE p else setE (p.it.map Itm.id) l
theorem set_ok {ids l : List Int} (h : setE ids l = 0) : l.Nodup ∧ ∀ x ∈ l, x ∈ ids := by
  have h0 := fst0_zero.1 h
  refine ⟨List.pairwise_iff_getElem.2 fun i j hi hj hij e => ?_, fun x hx => ?_⟩
  · have := h0 j (List.mem_range.2 hj)
    unfold chErr at this
    rw [getD_at 0 hj] at this
    split at this
    · cases this
    · split at this
      · cases this
      · rename_i hn; exact hn (by rw [← e, List.mem_take_iff_getElem]; exact ⟨i, by omega, rfl⟩)
  · obtain ⟨j, hj, rfl⟩ := List.getElem_of_mem hx
    have := h0 j (List.mem_range.2 hj)
    unfold chErr at this
    rw [getD_at 0 hj] at this
    split at this
    · cases this
    · rename_i hn; exact Decidable.not_not.1 hn
set_option maxRecDepth 100000 in
theorem chosen_bad (p : Prb) (l : List Int) (hb : PrbB p) (hl : l.length ≤ 100000) (hE : choE p l ≠ 0) : PCalls Try.prog 76 [.d (prbD p), .d (.sl none (l.map intD))] (.tup [.raw (.map none), intD (choE p l)]) := by
  have hck := pcheck_p p hb
  have hb2 := hb.2.1
  by_cases h0 : prbE p = 0
  · have hnd := items_ids (prb_ok h0).2.1
    rw [h0] at hck
    have hC : choE p l = setE (p.it.map Itm.id) l := if_neg (fun h => h h0)
    rw [hC] at hE ⊢
    obtain ⟨E0, hE0⟩ : ∃ e, setE (p.it.map Itm.id) l = e := ⟨_, rfl⟩
    rw [hE0] at hE ⊢
    refine a_enter Try.func76 rfl rfl Try.ntmps76 rfl rfl rfl fun F hF => ?_
    refine a_seq ?_
    refine a_region ?_
    refine Estep.go (st_box 1 rfl rfl rfl rfl rfl rfl rfl) ?_
    refine Pstep.go (st_assign rfl rfl) ?_
    refine Pstep.go (st_assign rfl rfl) ?_
    refine o_nil ?_
    refine a_seq ?_
    refine a_seq ?_
    refine a_region ?_
    refine Pstep.go (st_loadPS rfl rfl rw72 rfl rfl rfl) ?_
    refine Pstep.go (st_callP (hck) rfl rfl) ?_
    refine Pstep.go (st_assign rfl rfl) ?_
    refine o_nil ?_
    refine a_seq ?_
    refine a_region ?_
    refine Pstep.go (st_move rfl rfl) ?_
    refine Pstep.go (st_neq rfl rfl rfl) ?_
    refine o_nil ?_
    refine a_false rfl ((by decide)) ?_
    refine a_skip ?_
    refine a_seq ?_
    refine a_region ?_
    refine Estep.go (st_makeMap 2 rfl rfl rfl rfl) ?_
    refine Pstep.go (st_assign rfl rfl) ?_
    refine o_nil ?_
    refine a_seq ?_
    refine a_seq ?_
    refine a_region ?_
    refine Pstep.go (st_fieldP rfl fi72_1 rfl rfl rfl) ?_
    refine Pstep.go (st_loadP rfl rfl rfl on70 rfl) ?_
    refine Pstep.go (st_lenMap rfl Try.underlying70 rfl) ?_
    refine Pstep.go (st_move rfl rfl) ?_
    refine o_nil ?_
    refine a_block ?_
    refine a_loopP (α := Nat) (fun k => ⟨50, [(1, .d (.sl none (l.map intD))), (7, (.map 2 0)), (20, (.d (.sl none (p.it.map itmD)))), (21, (.d (intD (p.it.length : Int)))), (22, (.d (intD (k : Int))))], [(2, [mapC intD boolD (setM ((p.it.take k).map Itm.id))])]⟩) (fun k => k ≤ p.it.length) (fun k => p.it.length - k) (0) (Nat.zero_le _) (lep_of hF [2] rfl rfl ⟨rfl, rfl, rfl, rfl, rfl, trivial⟩) ?_
    rintro k hk0
    refine a_seq ?_
    refine a_region ?_
    refine Pstep.go (st_lss rfl rfl rfl) ?_
    refine o_nil ?_
    refine a_seq ?_
    refine a_if rfl (fun h23 => ?_) (fun h23 => ?_)
    · have hk1 : k < p.it.length := lt_cast h23
      refine a_skip ?_
      refine a_seq ?_
      refine a_block ?_
      refine a_seq ?_
      refine a_region ?_
      have hnk : p.it[k].id ∉ (p.it.take k).map Itm.id := fun h => by rw [List.Nodup, List.pairwise_map, List.pairwise_iff_getElem] at hnd; obtain ⟨x, hx, e⟩ := List.mem_map.1 h; obtain ⟨j, hj, rfl⟩ := List.mem_take_iff_getElem.1 hx; exact hnd j k (by omega) hk1 (by omega) e
      refine Pstep.go (st_indexD (k) rfl rfl (rfl) (getm hk1) Try.underlying70 rfl sz33 rfl) ?_
      refine Pstep.go (st_loadDS rfl rfl rw33 rfl) ?_
      refine Estep.go (st_alloc 3 zl33 rfl rfl rfl rfl) ?_
      refine Estep.go (st_storeP rfl rfl rfl rfl rfl rfl rfl sz33) ?_
      refine o_nil ?_
      refine a_region ?_
      refine Pstep.go (st_move rfl rfl) ?_
      refine Pstep.go (st_fieldP rfl fi33_0 rfl rfl rfl) ?_
      refine Pstep.go (st_loadP rfl rfl rfl on3 rfl) ?_
      refine Estep.go (st_mapU (setM ((p.it.take k).map Itm.id)) (p.it[k].id) (true) rfl rfl rfl mt125 kt3 rfl rfl) ?_
      refine o_nil ?_
      refine a_region ?_
      refine Pstep.go (st_add rfl rfl (wrapS (k + 1) (by omega)) rfl) ?_
      refine Pstep.go (st_move rfl rfl) ?_
      refine o_nil ?_
      exact ⟨k + 1, by show k + 1 ≤ _; omega, by show p.it.length - (k + 1) < p.it.length - k; omega, lep_of hF [2] rfl (by rw [tk_map hk1, ← setM_put hnk]; rfl) ⟨rfl, rfl, rfl, rfl, rfl, trivial⟩⟩
    · refine a_exit ?_
      refine a_seq ?_
      rw [List.take_of_length_le (show p.it.length ≤ k by have h := h23; omega)]
      refine a_region ?_
      refine Estep.go (st_makeMap 4 rfl rfl rfl rfl) ?_
      refine Pstep.go (st_assign rfl rfl) ?_
      refine o_nil ?_
      refine a_seq ?_
      refine a_seq ?_
      refine a_region ?_
      refine Pstep.go (st_move rfl rfl) ?_
      refine Pstep.go (st_lenMap rfl Try.underlying24 rfl) ?_
      refine Pstep.go (st_move rfl rfl) ?_
      refine o_nil ?_
      refine a_block ?_
      refine a_loopP (α := Nat) (fun k => ⟨50, [(7, (.map 2 0)), (10, (.map 4 0)), (31, (.d (.sl none (l.map intD)))), (32, (.d (intD (l.length : Int)))), (33, (.d (intD (k : Int))))], [(2, [mapC intD boolD (setM (p.it.map Itm.id))]), (4, [mapC intD boolD (setM (l.take k))])]⟩) (fun k => k ≤ l.length ∧ E0 = fst0 (((List.range l.length).drop k).map (chErr (p.it.map Itm.id) l))) (fun k => l.length - k) (0) (⟨Nat.zero_le _, hE0.symm⟩) (lep_of hF [2, 4] rfl rfl ⟨rfl, rfl, rfl, rfl, rfl, trivial⟩) ?_
      rintro k ⟨hk0, hk⟩
      refine a_seq ?_
      refine a_region ?_
      refine Pstep.go (st_lss rfl rfl rfl) ?_
      refine o_nil ?_
      refine a_seq ?_
      refine a_if rfl (fun h34 => ?_) (fun h34 => ?_)
      · have hk1 : k < l.length := lt_cast h34
        refine a_skip ?_
        refine a_seq ?_
        refine a_block ?_
        refine a_seq ?_
        refine a_region ?_
        have hEc := range_cases hk1 hk
        have hgd := getD_at 0 hk1
        refine Pstep.go (st_indexD (k) rfl rfl (rfl) (getm hk1) Try.underlying24 rfl sz3 rfl) ?_
        refine Pstep.go (st_loadD1 rfl rfl on3 rfl) ?_
        refine Pstep.go (st_assign rfl rfl) ?_
        refine o_nil ?_
        refine a_seq ?_
        refine a_block ?_
        refine a_seq ?_
        refine a_region ?_
        refine Pstep.go (st_move rfl rfl) ?_
        refine Pstep.go (st_move rfl rfl) ?_
        refine Pstep.go (st_look (setM (p.it.map Itm.id)) (l[k]) (false) _ rfl rfl rfl mt125 kt3 za4 rfl rfl) ?_
        rw [setM_get]
        refine Pstep.go (st_notP rfl rfl) ?_
        refine Pstep.go (st_assign rfl rfl) ?_
        refine o_nil ?_
        refine a_if rfl (fun h37 => ?_) (fun h37 => ?_)
        · refine a_seq ?_
          refine a_region ?_
          refine Pstep.go (st_assign rfl rfl) ?_
          refine Pstep.go (st_assign rfl rfl) ?_
          refine o_nil ?_
          refine a_ret ?_
          exact ⟨_, [], [], res_of rfl, rfl, rfl, by rw [hEc.2 9 (by unfold chErr; rw [hgd, if_pos (by simp_all)]) (by decide)], rfl⟩
        · refine a_seq ?_
          refine a_region ?_
          refine Pstep.go (st_move rfl rfl) ?_
          refine Pstep.go (st_move rfl rfl) ?_
          refine Pstep.go (st_look (setM (l.take k)) (l[k]) (false) _ rfl rfl rfl mt125 kt3 za4 rfl rfl) ?_
          rw [setM_get]
          refine Pstep.go (st_assign rfl rfl) ?_
          refine o_nil ?_
          refine a_if rfl (fun h42 => ?_) (fun h42 => ?_)
          · refine a_seq ?_
            refine a_region ?_
            refine Pstep.go (st_assign rfl rfl) ?_
            refine Pstep.go (st_assign rfl rfl) ?_
            refine o_nil ?_
            refine a_ret ?_
            exact ⟨_, [], [], res_of rfl, rfl, rfl, by rw [hEc.2 7 (by unfold chErr; rw [hgd, if_neg (by simp_all), if_pos (by simp_all)]) (by decide)], rfl⟩
          · refine a_skip ?_
            refine a_region ?_
            refine Pstep.go (st_move rfl rfl) ?_
            refine Pstep.go (st_move rfl rfl) ?_
            refine Estep.go (st_mapU (setM (l.take k)) (l[k]) (true) rfl rfl rfl mt125 kt3 rfl rfl) ?_
            refine o_nil ?_
            refine a_region ?_
            refine Pstep.go (st_add rfl rfl (wrapS (k + 1) (by omega)) rfl) ?_
            refine Pstep.go (st_move rfl rfl) ?_
            refine o_nil ?_
            exact ⟨k + 1, ⟨by show k + 1 ≤ _; omega, hEc.1 (by unfold chErr; rw [hgd, if_neg (by simp_all), if_neg (by simp_all)])⟩, by show l.length - (k + 1) < l.length - k; omega, lep_of hF [2, 4] rfl (by rw [List.take_succ_eq_append_getElem hk1, ← setM_put (by simp_all)]; rfl) ⟨rfl, rfl, rfl, rfl, rfl, trivial⟩⟩
      · refine a_exit ?_
        refine a_seq ?_
        refine a_region ?_
        refine Pstep.go (st_move rfl rfl) ?_
        refine Pstep.go (st_assign rfl rfl) ?_
        refine Pstep.go (st_assign rfl rfl) ?_
        refine o_nil ?_
        refine a_ret ?_
        exact absurd (by rw [hk, List.drop_of_length_le (by have h := h34; simp only [List.length_range]; omega)]; rfl) hE
  · have hC : choE p l = prbE p := if_pos h0
    rw [hC]
    refine a_enter Try.func76 rfl rfl Try.ntmps76 rfl rfl rfl fun F hF => ?_
    refine a_seq ?_
    refine a_region ?_
    refine Estep.go (st_box 1 rfl rfl rfl rfl rfl rfl rfl) ?_
    refine Pstep.go (st_assign rfl rfl) ?_
    refine Pstep.go (st_assign rfl rfl) ?_
    refine o_nil ?_
    refine a_seq ?_
    refine a_seq ?_
    refine a_region ?_
    refine Pstep.go (st_loadPS rfl rfl rw72 rfl rfl rfl) ?_
    refine Pstep.go (st_callP (hck) rfl rfl) ?_
    refine Pstep.go (st_assign rfl rfl) ?_
    refine o_nil ?_
    refine a_seq ?_
    refine a_region ?_
    refine Pstep.go (st_move rfl rfl) ?_
    refine Pstep.go (st_neq rfl rfl rfl) ?_
    refine o_nil ?_
    refine a_true rfl ((decide_eq_true h0)) ?_
    refine a_seq ?_
    refine a_region ?_
    refine Pstep.go (st_move rfl rfl) ?_
    refine Pstep.go (st_assign rfl rfl) ?_
    refine Pstep.go (st_assign rfl rfl) ?_
    refine o_nil ?_
    refine a_ret ?_
    exact ⟨_, [], [], res_of rfl, rfl, rfl, rfl, rfl⟩
set_option maxRecDepth 100000 in
theorem chosen_ok (p : Prb) (l : List Int) (hb : PrbB p) (hl : l.length ≤ 100000) (hE : choE p l = 0) : ACalls Try.prog 76 [.d (prbD p), .d (.sl none (l.map intD))] [] fun r H' => r = .tup [.map 4 0, .d (intD 0)] ∧ H' = [(4, [mapC intD boolD (setM l)])] := by
  have hck := pcheck_p p hb
  have hb2 := hb.2.1
  have h0 : prbE p = 0 := by
    unfold choE at hE; split at hE
    · exact hE
    · rename_i h; simpa using h
  have hnd := items_ids (prb_ok h0).2.1
  rw [h0] at hck
  have hC : choE p l = setE (p.it.map Itm.id) l := if_neg (fun h => h h0)
  rw [hC] at hE
  refine a_enter Try.func76 rfl rfl Try.ntmps76 rfl rfl rfl fun F hF => ?_
  refine a_seq ?_
  refine a_region ?_
  refine Estep.go (st_box 1 rfl rfl rfl rfl rfl rfl rfl) ?_
  refine Pstep.go (st_assign rfl rfl) ?_
  refine Pstep.go (st_assign rfl rfl) ?_
  refine o_nil ?_
  refine a_seq ?_
  refine a_seq ?_
  refine a_region ?_
  refine Pstep.go (st_loadPS rfl rfl rw72 rfl rfl rfl) ?_
  refine Pstep.go (st_callP (hck) rfl rfl) ?_
  refine Pstep.go (st_assign rfl rfl) ?_
  refine o_nil ?_
  refine a_seq ?_
  refine a_region ?_
  refine Pstep.go (st_move rfl rfl) ?_
  refine Pstep.go (st_neq rfl rfl rfl) ?_
  refine o_nil ?_
  refine a_false rfl ((by decide)) ?_
  refine a_skip ?_
  refine a_seq ?_
  refine a_region ?_
  refine Estep.go (st_makeMap 2 rfl rfl rfl rfl) ?_
  refine Pstep.go (st_assign rfl rfl) ?_
  refine o_nil ?_
  refine a_seq ?_
  refine a_seq ?_
  refine a_region ?_
  refine Pstep.go (st_fieldP rfl fi72_1 rfl rfl rfl) ?_
  refine Pstep.go (st_loadP rfl rfl rfl on70 rfl) ?_
  refine Pstep.go (st_lenMap rfl Try.underlying70 rfl) ?_
  refine Pstep.go (st_move rfl rfl) ?_
  refine o_nil ?_
  refine a_block ?_
  refine a_loopP (α := Nat) (fun k => ⟨50, [(1, .d (.sl none (l.map intD))), (7, (.map 2 0)), (20, (.d (.sl none (p.it.map itmD)))), (21, (.d (intD (p.it.length : Int)))), (22, (.d (intD (k : Int))))], [(2, [mapC intD boolD (setM ((p.it.take k).map Itm.id))])]⟩) (fun k => k ≤ p.it.length) (fun k => p.it.length - k) (0) (Nat.zero_le _) (lep_of hF [2] rfl rfl ⟨rfl, rfl, rfl, rfl, rfl, trivial⟩) ?_
  rintro k hk0
  refine a_seq ?_
  refine a_region ?_
  refine Pstep.go (st_lss rfl rfl rfl) ?_
  refine o_nil ?_
  refine a_seq ?_
  refine a_if rfl (fun h23 => ?_) (fun h23 => ?_)
  · have hk1 : k < p.it.length := lt_cast h23
    refine a_skip ?_
    refine a_seq ?_
    refine a_block ?_
    refine a_seq ?_
    refine a_region ?_
    have hnk : p.it[k].id ∉ (p.it.take k).map Itm.id := fun h => by rw [List.Nodup, List.pairwise_map, List.pairwise_iff_getElem] at hnd; obtain ⟨x, hx, e⟩ := List.mem_map.1 h; obtain ⟨j, hj, rfl⟩ := List.mem_take_iff_getElem.1 hx; exact hnd j k (by omega) hk1 (by omega) e
    refine Pstep.go (st_indexD (k) rfl rfl (rfl) (getm hk1) Try.underlying70 rfl sz33 rfl) ?_
    refine Pstep.go (st_loadDS rfl rfl rw33 rfl) ?_
    refine Estep.go (st_alloc 3 zl33 rfl rfl rfl rfl) ?_
    refine Estep.go (st_storeP rfl rfl rfl rfl rfl rfl rfl sz33) ?_
    refine o_nil ?_
    refine a_region ?_
    refine Pstep.go (st_move rfl rfl) ?_
    refine Pstep.go (st_fieldP rfl fi33_0 rfl rfl rfl) ?_
    refine Pstep.go (st_loadP rfl rfl rfl on3 rfl) ?_
    refine Estep.go (st_mapU (setM ((p.it.take k).map Itm.id)) (p.it[k].id) (true) rfl rfl rfl mt125 kt3 rfl rfl) ?_
    refine o_nil ?_
    refine a_region ?_
    refine Pstep.go (st_add rfl rfl (wrapS (k + 1) (by omega)) rfl) ?_
    refine Pstep.go (st_move rfl rfl) ?_
    refine o_nil ?_
    exact ⟨k + 1, by show k + 1 ≤ _; omega, by show p.it.length - (k + 1) < p.it.length - k; omega, lep_of hF [2] rfl (by rw [tk_map hk1, ← setM_put hnk]; rfl) ⟨rfl, rfl, rfl, rfl, rfl, trivial⟩⟩
  · refine a_exit ?_
    refine a_seq ?_
    rw [List.take_of_length_le (show p.it.length ≤ k by have h := h23; omega)]
    refine a_region ?_
    refine Estep.go (st_makeMap 4 rfl rfl rfl rfl) ?_
    refine Pstep.go (st_assign rfl rfl) ?_
    refine o_nil ?_
    refine a_seq ?_
    refine a_seq ?_
    refine a_region ?_
    refine Pstep.go (st_move rfl rfl) ?_
    refine Pstep.go (st_lenMap rfl Try.underlying24 rfl) ?_
    refine Pstep.go (st_move rfl rfl) ?_
    refine o_nil ?_
    refine a_block ?_
    refine a_loopP (α := Nat) (fun k => ⟨50, [(7, (.map 2 0)), (10, (.map 4 0)), (31, (.d (.sl none (l.map intD)))), (32, (.d (intD (l.length : Int)))), (33, (.d (intD (k : Int))))], [(2, [mapC intD boolD (setM (p.it.map Itm.id))]), (4, [mapC intD boolD (setM (l.take k))])]⟩) (fun k => k ≤ l.length) (fun k => l.length - k) (0) (Nat.zero_le _) (lep_of hF [2, 4] rfl rfl ⟨rfl, rfl, rfl, rfl, rfl, trivial⟩) ?_
    rintro k hk0
    refine a_seq ?_
    refine a_region ?_
    refine Pstep.go (st_lss rfl rfl rfl) ?_
    refine o_nil ?_
    refine a_seq ?_
    refine a_if rfl (fun h34 => ?_) (fun h34 => ?_)
    · have hk1 : k < l.length := lt_cast h34
      refine a_skip ?_
      refine a_seq ?_
      refine a_block ?_
      refine a_seq ?_
      refine a_region ?_
      have hz := fst0_zero.1 hE k (List.mem_range.2 hk1)
      have hgd := getD_at 0 hk1
      have hin : l[k] ∈ p.it.map Itm.id := (set_ok hE).2 _ (List.getElem_mem hk1)
      have hnk : l[k] ∉ l.take k := fun h => by have hn2 := (set_ok hE).1; rw [List.Nodup, List.pairwise_iff_getElem] at hn2; obtain ⟨j, hj, e⟩ := List.mem_take_iff_getElem.1 h; exact hn2 j k (by omega) hk1 (by omega) e
      refine Pstep.go (st_indexD (k) rfl rfl (rfl) (getm hk1) Try.underlying24 rfl sz3 rfl) ?_
      refine Pstep.go (st_loadD1 rfl rfl on3 rfl) ?_
      refine Pstep.go (st_assign rfl rfl) ?_
      refine o_nil ?_
      refine a_seq ?_
      refine a_block ?_
      refine a_seq ?_
      refine a_region ?_
      refine Pstep.go (st_move rfl rfl) ?_
      refine Pstep.go (st_move rfl rfl) ?_
      refine Pstep.go (st_look (setM (p.it.map Itm.id)) (l[k]) (false) _ rfl rfl rfl mt125 kt3 za4 rfl rfl) ?_
      rw [setM_get]
      refine Pstep.go (st_notP rfl rfl) ?_
      refine Pstep.go (st_assign rfl rfl) ?_
      refine o_nil ?_
      refine a_if rfl (fun h37 => ?_) (fun h37 => ?_)
      · refine a_seq ?_
        refine a_region ?_
        refine Pstep.go (st_assign rfl rfl) ?_
        refine Pstep.go (st_assign rfl rfl) ?_
        refine o_nil ?_
        refine a_ret ?_
        exact absurd hin (by simp_all)
      · refine a_seq ?_
        refine a_region ?_
        refine Pstep.go (st_move rfl rfl) ?_
        refine Pstep.go (st_move rfl rfl) ?_
        refine Pstep.go (st_look (setM (l.take k)) (l[k]) (false) _ rfl rfl rfl mt125 kt3 za4 rfl rfl) ?_
        rw [setM_get]
        refine Pstep.go (st_assign rfl rfl) ?_
        refine o_nil ?_
        refine a_if rfl (fun h42 => ?_) (fun h42 => ?_)
        · refine a_seq ?_
          refine a_region ?_
          refine Pstep.go (st_assign rfl rfl) ?_
          refine Pstep.go (st_assign rfl rfl) ?_
          refine o_nil ?_
          refine a_ret ?_
          exact absurd hnk (by simp_all)
        · refine a_skip ?_
          refine a_region ?_
          refine Pstep.go (st_move rfl rfl) ?_
          refine Pstep.go (st_move rfl rfl) ?_
          refine Estep.go (st_mapU (setM (l.take k)) (l[k]) (true) rfl rfl rfl mt125 kt3 rfl rfl) ?_
          refine o_nil ?_
          refine a_region ?_
          refine Pstep.go (st_add rfl rfl (wrapS (k + 1) (by omega)) rfl) ?_
          refine Pstep.go (st_move rfl rfl) ?_
          refine o_nil ?_
          exact ⟨k + 1, by show k + 1 ≤ _; omega, by show l.length - (k + 1) < l.length - k; omega, lep_of hF [2, 4] rfl (by rw [List.take_succ_eq_append_getElem hk1, ← setM_put hnk]; rfl) ⟨rfl, rfl, rfl, rfl, rfl, trivial⟩⟩
    · refine a_exit ?_
      refine a_seq ?_
      refine a_region ?_
      refine Pstep.go (st_move rfl rfl) ?_
      refine Pstep.go (st_assign rfl rfl) ?_
      refine Pstep.go (st_assign rfl rfl) ?_
      refine o_nil ?_
      refine a_ret ?_
      exact ⟨_, [4], _, res_of rfl, rfl, rfl, rfl, by rw [List.take_of_length_le (show l.length ≤ k by have h := h34; omega)] <;> rfl⟩
end Go.Proofs.Ytfmpiabmnjmobaa
