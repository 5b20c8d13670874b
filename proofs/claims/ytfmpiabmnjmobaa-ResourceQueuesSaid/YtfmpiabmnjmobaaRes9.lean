/- Layer 28: Order, Queue, Item. -/
import Derived.Test.YtfmpiabmnjmobaaRes8
namespace Go.Proofs.Ytfmpiabmnjmobaa
open Go.RowKit

theorem ordP_len (p : Prb) : (ordP p).length ≤ p.it.length := by unfold ordP; split <;> simp [sortO_len]
theorem ordP_mem {p : Prb} {i : Itm} (h : i ∈ ordP p) : i ∈ p.it := by
  unfold ordP at h; split at h
  · exact (sortO_perm _).mem_iff.1 h
  · cases h
set_option maxRecDepth 100000 in
theorem order_ids_p (p : Prb) (hb : PrbB p) : PCalls Try.prog 31 [.d (prbD p)] (.sl none (((ordP p).map Itm.id).map intD)) := by
  have hso := psorted_p p hb
  have hlen := ordP_len p
  have hb2 := hb.2.1
  obtain ⟨S, hS⟩ : ∃ S, ordP p = S := ⟨_, rfl⟩
  rw [hS] at hso hlen ⊢
  refine a_enter Try.func31 rfl rfl Try.ntmps31 rfl rfl rfl fun F hF => ?_
  refine a_seq ?_
  refine a_region ?_
  refine Estep.go (st_box 1 rfl rfl rfl rfl rfl rfl rfl) ?_
  refine Pstep.go (st_assign rfl rfl) ?_
  refine o_nil ?_
  refine a_seq ?_
  refine a_region ?_
  refine Pstep.go (st_assign rfl rfl) ?_
  refine o_nil ?_
  refine a_seq ?_
  refine a_seq ?_
  refine a_adopt 3 900 sl24 rfl rfl rfl rfl ?_
  refine a_region ?_
  first | refine Pstep.go (st_loadDS rfl rfl rw72 rfl) ?_ | refine Pstep.go (st_loadPS rfl rfl rw72 rfl rfl rfl) ?_ | refine Pstep.go (st_loadRS rfl rfl (rfl) rfl rw72 rfl) ?_
  refine Pstep.go (st_callP (hso) rfl rfl) ?_
  first | refine Pstep.go (st_lenMap rfl Try.underlying70 rfl) ?_ | refine Pstep.go (st_lenD rfl rfl Try.underlying70 rfl) ?_ | refine Pstep.go (st_lenO rfl Try.underlying70 rfl) ?_ | refine Pstep.go (st_lenSL rfl Try.underlying70 rfl) ?_ | refine Pstep.go (st_lenS rfl Try.underlying70 rfl) ?_
  refine Pstep.go (st_move rfl rfl) ?_
  refine o_nil ?_
  refine a_block ?_
  refine a_loopP (α := Nat × List Int) (fun q => ⟨20, [(3, (.own 900 0 q.2.length)), (7, (.d (.sl none (S.map itmD)))), (8, (.d (intD (S.length : Int)))), (9, (.d (intD (q.1 : Int))))], [(900, [.rowD 3 1 (q.2.map intD)])]⟩) (fun q => q.1 ≤ S.length ∧ q.2 = (S.take q.1).map Itm.id) (fun q => S.length - q.1) ((0, [])) (⟨Nat.zero_le _, rfl⟩) (lep_of hF [900] rfl rfl ⟨rfl, rfl, rfl, rfl, trivial⟩) ?_
  rintro ⟨k, acc⟩ ⟨hk0, hA⟩
  dsimp only at hk0 hA ⊢
  refine a_seq ?_
  refine a_region ?_
  first | refine Pstep.go (st_lss rfl rfl rfl) ?_ | refine Pstep.go (st_lssS rfl rfl rfl) ?_
  refine o_nil ?_
  refine a_seq ?_
  first | refine a_if rfl (fun h10 => ?_) (fun h10 => ?_) | refine a_cond rfl (fun h10 => ?_) (fun h10 => ?_)
  · have hk1 : k < S.length := lt_cast h10
    refine a_skip ?_
    refine a_seq ?_
    refine a_block ?_
    refine a_seq ?_
    refine a_region ?_
    have hal : acc.length ≤ 100000 := by rw [hA, List.length_map, List.length_take]; omega
    first | refine Pstep.go (st_indexD (k) rfl rfl (rfl) (getm hk1) Try.underlying70 rfl sz33 rfl) ?_ | refine Pstep.go (st_indexO (k) rfl rfl (rfl) (getm hk1) rfl Try.underlying70 sz33 rfl) ?_
    first | refine Pstep.go (st_loadDS rfl rfl rw33 rfl) ?_ | refine Pstep.go (st_loadPS rfl rfl rw33 rfl rfl rfl) ?_ | refine Pstep.go (st_loadRS rfl rfl (rfl) rfl rw33 rfl) ?_
    refine Estep.go (st_alloc 2 zl33 rfl rfl rfl rfl) ?_
    refine Estep.go (st_storeP rfl rfl rfl rfl rfl rfl rfl sz33) ?_
    refine o_nil ?_
    refine a_region ?_
    refine Pstep.go (st_move rfl rfl) ?_
    first | refine Pstep.go (st_fieldP rfl fi33_0 rfl rfl rfl) ?_ | refine Pstep.go (st_fieldF1 rfl fi33_0 rfl rfl rfl) ?_ | refine Pstep.go (st_fieldFS rfl fi33_0 rfl rfl rfl) ?_ | refine Pstep.go (st_fieldR rfl fi33_0 rfl rfl rfl) ?_
    first | refine Pstep.go (st_loadD1 rfl rfl on3 rfl) ?_ | refine Pstep.go (st_loadP rfl rfl rfl on3 rfl) ?_ | refine Pstep.go (st_loadR rfl rfl (rfl) rfl on3 rfl) ?_
    refine Estep.go (st_buildSlice 3 sl24 rfl rfl rfl rfl rfl rfl rfl rfl) ?_
    first | refine Estep.go (st_appM (acc) ([S[k].id]) rfl rfl rfl rfl rfl rfl rfl rfl sl24 (by simp only [List.length_singleton]; omega) rfl rfl rfl rfl) ?_ | refine Estep.go (st_appMD (acc) ([S[k].id]) rfl rfl rfl rfl rfl rfl (fun _ => rfl) sl24 (by simp only [List.length_singleton]; omega) rfl rfl rfl rfl) ?_
    refine Pstep.go (st_assign rfl rfl) ?_
    refine o_nil ?_
    refine a_region ?_
    refine Pstep.go (st_add rfl rfl (wrapS (k + 1) (by omega)) rfl) ?_
    refine Pstep.go (st_move rfl rfl) ?_
    refine o_nil ?_
    exact ⟨(k + 1, _), ⟨by show k + 1 ≤ _; omega, by show _ = (S.take (k + 1)).map Itm.id; rw [tk_map hk1, ← hA]⟩, by show S.length - (k + 1) < S.length - k; omega, lep_of hF [900] rfl (rfl) ⟨rfl, rfl, rfl, rfl, trivial⟩⟩
  · refine a_exit ?_
    refine a_seq ?_
    refine a_freezeM (emb := intD) 3 900 acc rfl rfl rfl rfl rfl rfl rfl ?_
    refine a_region ?_
    refine Pstep.go (st_move rfl rfl) ?_
    refine Pstep.go (st_assign rfl rfl) ?_
    refine o_nil ?_
    refine a_ret ?_
    exact ⟨_, [], [], res_of rfl, rfl, rfl, by rw [hA, List.take_of_length_le (by have h := h10; omega)], rfl⟩
set_option maxRecDepth 100000 in
theorem queue_p (p : Prb) (r : Rsc) (hb : PrbB p) : PCalls Try.prog 32 [.d (prbD p), .d (rscD r)] (.sl none ((qIds (ordP p) r).map intD)) := by
  have hso := psorted_p p hb
  have hlen := ordP_len p
  have hb2 := hb.2.1
  have hmem : ∀ i ∈ ordP p, i.po.length ≤ 100000 ∧ i.pa.length ≤ 100000 ∧ i.af.length ≤ 100000 := fun i hi => hb.2.2 i (ordP_mem hi)
  obtain ⟨S, hS⟩ : ∃ S, ordP p = S := ⟨_, rfl⟩
  rw [hS] at hso hlen hmem ⊢
  refine a_enter Try.func32 rfl rfl Try.ntmps32 rfl rfl rfl fun F hF => ?_
  refine a_seq ?_
  refine a_region ?_
  refine Estep.go (st_box 1 rfl rfl rfl rfl rfl rfl rfl) ?_
  refine Estep.go (st_box 2 rfl rfl rfl rfl rfl rfl rfl) ?_
  refine Pstep.go (st_assign rfl rfl) ?_
  refine o_nil ?_
  refine a_seq ?_
  refine a_region ?_
  refine Pstep.go (st_assign rfl rfl) ?_
  refine o_nil ?_
  refine a_seq ?_
  refine a_seq ?_
  refine a_adopt 5 900 sl24 rfl rfl rfl rfl ?_
  refine a_region ?_
  first | refine Pstep.go (st_loadDS rfl rfl rw72 rfl) ?_ | refine Pstep.go (st_loadPS rfl rfl rw72 rfl rfl rfl) ?_ | refine Pstep.go (st_loadRS rfl rfl (rfl) rfl rw72 rfl) ?_
  refine Pstep.go (st_callP (hso) rfl rfl) ?_
  first | refine Pstep.go (st_lenMap rfl Try.underlying70 rfl) ?_ | refine Pstep.go (st_lenD rfl rfl Try.underlying70 rfl) ?_ | refine Pstep.go (st_lenO rfl Try.underlying70 rfl) ?_ | refine Pstep.go (st_lenSL rfl Try.underlying70 rfl) ?_ | refine Pstep.go (st_lenS rfl Try.underlying70 rfl) ?_
  refine Pstep.go (st_move rfl rfl) ?_
  refine o_nil ?_
  refine a_block ?_
  refine a_loopP (α := Nat × List Int) (fun q => ⟨26, [(3, (.ptr 2 0 0)), (5, (.own 900 0 q.2.length)), (9, (.d (.sl none (S.map itmD)))), (10, (.d (intD (S.length : Int)))), (11, (.d (intD (q.1 : Int))))], [(2, [.blk 43 [.d (intD r.k), .d (strD r.acc.o), .d (intD r.acc.k), .d (strD r.acc.a), .d (strD r.f), .d (strD r.t)]]), (900, [.rowD 3 1 (q.2.map intD)])]⟩) (fun q => q.1 ≤ S.length ∧ q.2 = qIds (S.take q.1) r) (fun q => S.length - q.1) ((0, [])) (⟨Nat.zero_le _, rfl⟩) (lep_of hF [2, 900] rfl rfl ⟨rfl, rfl, rfl, rfl, rfl, trivial⟩) ?_
  rintro ⟨k, acc⟩ ⟨hk0, hA⟩
  dsimp only at hk0 hA ⊢
  refine a_seq ?_
  refine a_region ?_
  first | refine Pstep.go (st_lss rfl rfl rfl) ?_ | refine Pstep.go (st_lssS rfl rfl rfl) ?_
  refine o_nil ?_
  refine a_seq ?_
  first | refine a_if rfl (fun h12 => ?_) (fun h12 => ?_) | refine a_cond rfl (fun h12 => ?_) (fun h12 => ?_)
  · have hk1 : k < S.length := lt_cast h12
    refine a_skip ?_
    refine a_seq ?_
    refine a_block ?_
    refine a_seq ?_
    refine a_region ?_
    have hgi := hmem _ (List.getElem_mem hk1)
    have hal : acc.length ≤ 100000 := by rw [hA]; unfold qIds; rw [List.length_map]; have := List.length_filter_le (fun i => decide (dltE i r < 0)) (S.take k); rw [List.length_take] at this; omega
    first | refine Pstep.go (st_indexD (k) rfl rfl (rfl) (getm hk1) Try.underlying70 rfl sz33 rfl) ?_ | refine Pstep.go (st_indexO (k) rfl rfl (rfl) (getm hk1) rfl Try.underlying70 sz33 rfl) ?_
    first | refine Pstep.go (st_loadDS rfl rfl rw33 rfl) ?_ | refine Pstep.go (st_loadPS rfl rfl rw33 rfl rfl rfl) ?_ | refine Pstep.go (st_loadRS rfl rfl (rfl) rfl rw33 rfl) ?_
    refine Estep.go (st_alloc 3 zl33 rfl rfl rfl rfl) ?_
    refine Estep.go (st_storeP rfl rfl rfl rfl rfl rfl rfl sz33) ?_
    refine o_nil ?_
    refine a_seq ?_
    refine a_region ?_
    first | refine Pstep.go (st_loadDS rfl rfl rw33 rfl) ?_ | refine Pstep.go (st_loadPS rfl rfl rw33 rfl rfl rfl) ?_ | refine Pstep.go (st_loadRS rfl rfl (rfl) rfl rw33 rfl) ?_
    first | refine Pstep.go (st_loadDS rfl rfl rw43 rfl) ?_ | refine Pstep.go (st_loadPS rfl rfl rw43 rfl rfl rfl) ?_ | refine Pstep.go (st_loadRS rfl rfl (rfl) rfl rw43 rfl) ?_
    refine Pstep.go (st_callP (delta_p S[k] r (by omega) (by omega) (by omega)) rfl rfl) ?_
    first | refine Pstep.go (st_lss rfl rfl rfl) ?_ | refine Pstep.go (st_lssS rfl rfl rfl) ?_
    refine o_nil ?_
    first | refine a_if rfl (fun h18 => ?_) (fun h18 => ?_) | refine a_cond rfl (fun h18 => ?_) (fun h18 => ?_)
    · refine a_region ?_
      refine Pstep.go (st_move rfl rfl) ?_
      first | refine Pstep.go (st_fieldP rfl fi33_0 rfl rfl rfl) ?_ | refine Pstep.go (st_fieldF1 rfl fi33_0 rfl rfl rfl) ?_ | refine Pstep.go (st_fieldFS rfl fi33_0 rfl rfl rfl) ?_ | refine Pstep.go (st_fieldR rfl fi33_0 rfl rfl rfl) ?_
      first | refine Pstep.go (st_loadD1 rfl rfl on3 rfl) ?_ | refine Pstep.go (st_loadP rfl rfl rfl on3 rfl) ?_ | refine Pstep.go (st_loadR rfl rfl (rfl) rfl on3 rfl) ?_
      refine Estep.go (st_buildSlice 4 sl24 rfl rfl rfl rfl rfl rfl rfl rfl) ?_
      first | refine Estep.go (st_appM (acc) ([S[k].id]) rfl rfl rfl rfl rfl rfl rfl rfl sl24 (by simp only [List.length_singleton]; omega) rfl rfl rfl rfl) ?_ | refine Estep.go (st_appMD (acc) ([S[k].id]) rfl rfl rfl rfl rfl rfl (fun _ => rfl) sl24 (by simp only [List.length_singleton]; omega) rfl rfl rfl rfl) ?_
      refine Pstep.go (st_assign rfl rfl) ?_
      refine o_nil ?_
      refine a_region ?_
      refine Pstep.go (st_add rfl rfl (wrapS (k + 1) (by omega)) rfl) ?_
      refine Pstep.go (st_move rfl rfl) ?_
      refine o_nil ?_
      exact ⟨(k + 1, _), ⟨by show k + 1 ≤ _; omega, by show _ = qIds (S.take (k + 1)) r; unfold qIds; rw [flt_snoc hk1, if_pos (by simpa using h18), List.map_append, hA]; rfl⟩, by show S.length - (k + 1) < S.length - k; omega, lep_of hF [2, 900] rfl (rfl) ⟨rfl, rfl, rfl, rfl, rfl, trivial⟩⟩
    · refine a_skip ?_
      refine a_region ?_
      refine Pstep.go (st_add rfl rfl (wrapS (k + 1) (by omega)) rfl) ?_
      refine Pstep.go (st_move rfl rfl) ?_
      refine o_nil ?_
      exact ⟨(k + 1, _), ⟨by show k + 1 ≤ _; omega, by show _ = qIds (S.take (k + 1)) r; unfold qIds; rw [flt_snoc hk1, if_neg (by simpa using h18), List.append_nil, hA]; rfl⟩, by show S.length - (k + 1) < S.length - k; omega, lep_of hF [2, 900] rfl (rfl) ⟨rfl, rfl, rfl, rfl, rfl, trivial⟩⟩
  · refine a_exit ?_
    refine a_seq ?_
    refine a_freezeM (emb := intD) 5 900 acc rfl rfl rfl rfl rfl rfl rfl ?_
    refine a_region ?_
    refine Pstep.go (st_move rfl rfl) ?_
    refine Pstep.go (st_assign rfl rfl) ?_
    refine o_nil ?_
    refine a_ret ?_
    exact ⟨_, [], [], res_of rfl, rfl, rfl, by rw [hA, List.take_of_length_le (by have h := h12; omega)], rfl⟩
end Go.Proofs.Ytfmpiabmnjmobaa

/- Layer 28: Item. -/
namespace Go.Proofs.Ytfmpiabmnjmobaa
open Go.RowKit

def itemF (l : List Itm) (id : Int) : Itm × Bool := match l.find? fun x => decide (x.id = id) with
  | some x => (x, true)
  | none => (itm0, false)
theorem itemF_at {l : List Itm} {id : Int} {k : Nat} (hk : k < l.length) (h0 : id ∉ (l.take k).map Itm.id) (h : l[k].id = id) : itemF l id = (l[k], true) := by
  have : l.find? (fun x => decide (x.id = id)) = some l[k] := by
    rw [List.find?_eq_some_iff_getElem]
    refine ⟨by simp [h], k, hk, rfl, fun j hj => ?_⟩
    simp only [Bool.not_eq_true', decide_eq_false_iff_not]
    intro e
    exact h0 (mem_tk hk hj e)
  unfold itemF; rw [this]
theorem itemF_no {l : List Itm} {id : Int} (h : id ∉ l.map Itm.id) : itemF l id = (itm0, false) := by
  have : l.find? (fun x => decide (x.id = id)) = none := by
    rw [List.find?_eq_none]
    intro x hx e
    exact h (List.mem_map.2 ⟨x, hx, by simpa using e⟩)
  unfold itemF; rw [this]
theorem itm0_weak : ∀ w O v, RepD w O (.agg [intD 0, intD 0, intD 0, .sl (some true) [], .sl (some true) [], .sl (some true) []]) v → RepD w O (itmD itm0) v := fun w O v h => h.aggMono rfl (by simp [D.one]) fun i c c' hc hc' v hv => by
  match i, hc, hc' with
  | 0, hc, hc' => injection hc with hc; injection hc' with hc'; subst hc hc'; exact hv
  | 1, hc, hc' => injection hc with hc; injection hc' with hc'; subst hc hc'; exact hv
  | 2, hc, hc' => injection hc with hc; injection hc' with hc'; subst hc hc'; exact hv
  | 3, hc, hc' => injection hc with hc; injection hc' with hc'; subst hc hc'; exact hv.anyNil
  | 4, hc, hc' => injection hc with hc; injection hc' with hc'; subst hc hc'; exact hv.anyNil
  | 5, hc, hc' => injection hc with hc; injection hc' with hc'; subst hc hc'; exact hv.anyNil
set_option maxRecDepth 100000 in
theorem item_p (p : Prb) (id : Int) (hb : PrbB p) : PCalls Try.prog 33 [.d (prbD p), .d (intD id)] (.tup [itmD (itemF (ordP p) id).1, boolD (itemF (ordP p) id).2]) := by
  have hso := psorted_p p hb
  have hlen := ordP_len p
  have hb2 := hb.2.1
  have hmem : ∀ i ∈ ordP p, i.po.length ≤ 100000 ∧ i.pa.length ≤ 100000 ∧ i.af.length ≤ 100000 := fun i hi => hb.2.2 i (ordP_mem hi)
  obtain ⟨S, hS⟩ : ∃ S, ordP p = S := ⟨_, rfl⟩
  rw [hS] at hso hlen hmem ⊢
  refine a_enter Try.func33 rfl rfl Try.ntmps33 rfl rfl rfl fun F hF => ?_
  refine a_seq ?_
  refine a_region ?_
  refine Estep.go (st_box 1 rfl rfl rfl rfl rfl rfl rfl) ?_
  refine Estep.go (st_alloc 2 zl33 rfl rfl rfl rfl) ?_
  refine Pstep.go (st_assign rfl rfl) ?_
  refine o_nil ?_
  refine a_seq ?_
  refine a_seq ?_
  refine a_region ?_
  first | refine Pstep.go (st_loadDS rfl rfl rw72 rfl) ?_ | refine Pstep.go (st_loadPS rfl rfl rw72 rfl rfl rfl) ?_ | refine Pstep.go (st_loadRS rfl rfl (rfl) rfl rw72 rfl) ?_
  refine Pstep.go (st_callP (hso) rfl rfl) ?_
  first | refine Pstep.go (st_lenMap rfl Try.underlying70 rfl) ?_ | refine Pstep.go (st_lenD rfl rfl Try.underlying70 rfl) ?_ | refine Pstep.go (st_lenO rfl Try.underlying70 rfl) ?_ | refine Pstep.go (st_lenSL rfl Try.underlying70 rfl) ?_ | refine Pstep.go (st_lenS rfl Try.underlying70 rfl) ?_
  refine Pstep.go (st_move rfl rfl) ?_
  refine o_nil ?_
  refine a_block ?_
  refine a_loopP (α := Nat) (fun k => ⟨23, [(1, .d (intD id)), (4, (.ptr 2 0 0)), (9, (.d (.sl none (S.map itmD)))), (10, (.d (intD (S.length : Int)))), (11, (.d (intD (k : Int))))], [(2, [.blk 33 [.d (intD 0), .d (intD 0), .d (intD 0), nilC, nilC, nilC]])]⟩) (fun k => k ≤ S.length ∧ id ∉ (S.take k).map Itm.id) (fun k => S.length - k) (0) (⟨Nat.zero_le _, by simp⟩) (lep_of hF [2] rfl rfl ⟨rfl, rfl, rfl, rfl, rfl, trivial⟩) ?_
  rintro k ⟨hk0, hk⟩
  refine a_seq ?_
  refine a_region ?_
  first | refine Pstep.go (st_lss rfl rfl rfl) ?_ | refine Pstep.go (st_lssS rfl rfl rfl) ?_
  refine o_nil ?_
  refine a_seq ?_
  first | refine a_if rfl (fun h12 => ?_) (fun h12 => ?_) | refine a_cond rfl (fun h12 => ?_) (fun h12 => ?_)
  · have hk1 : k < S.length := lt_cast h12
    refine a_skip ?_
    refine a_seq ?_
    refine a_block ?_
    refine a_seq ?_
    refine a_region ?_
    have hgi := hmem _ (List.getElem_mem hk1)
    first | refine Pstep.go (st_indexD (k) rfl rfl (rfl) (getm hk1) Try.underlying70 rfl sz33 rfl) ?_ | refine Pstep.go (st_indexO (k) rfl rfl (rfl) (getm hk1) rfl Try.underlying70 sz33 rfl) ?_
    first | refine Pstep.go (st_loadDS rfl rfl rw33 rfl) ?_ | refine Pstep.go (st_loadPS rfl rfl rw33 rfl rfl rfl) ?_ | refine Pstep.go (st_loadRS rfl rfl (rfl) rfl rw33 rfl) ?_
    refine Estep.go (st_alloc 3 zl33 rfl rfl rfl rfl) ?_
    refine Estep.go (st_storeP rfl rfl rfl rfl rfl rfl rfl sz33) ?_
    refine o_nil ?_
    refine a_seq ?_
    refine a_region ?_
    first | refine Pstep.go (st_fieldP rfl fi33_0 rfl rfl rfl) ?_ | refine Pstep.go (st_fieldF1 rfl fi33_0 rfl rfl rfl) ?_ | refine Pstep.go (st_fieldFS rfl fi33_0 rfl rfl rfl) ?_ | refine Pstep.go (st_fieldR rfl fi33_0 rfl rfl rfl) ?_
    first | refine Pstep.go (st_loadD1 rfl rfl on3 rfl) ?_ | refine Pstep.go (st_loadP rfl rfl rfl on3 rfl) ?_ | refine Pstep.go (st_loadR rfl rfl (rfl) rfl on3 rfl) ?_
    refine Pstep.go (st_move rfl rfl) ?_
    first | refine Pstep.go (st_eql rfl rfl rfl) ?_ | refine Pstep.go (st_eqlSL rfl rfl rfl) ?_ | refine Pstep.go (st_eqlS rfl rfl rfl) ?_ | refine Pstep.go (st_eqlB Try.underlying3 rfl rfl rfl) ?_ | refine Pstep.go (st_eqlP Try.underlying3 rfl rfl rfl) ?_ | refine Pstep.go (st_eqlN Try.underlying3 rfl rfl) ?_ | refine Pstep.go (st_eqlF Try.underlying3 rfl rfl rfl) ?_ | refine Pstep.go (st_eqlFN Try.underlying3 rfl rfl) ?_
    refine o_nil ?_
    first | refine a_if rfl (fun h18 => ?_) (fun h18 => ?_) | refine a_cond rfl (fun h18 => ?_) (fun h18 => ?_)
    · refine a_seq ?_
      refine a_region ?_
      first | refine Pstep.go (st_loadDS rfl rfl rw33 rfl) ?_ | refine Pstep.go (st_loadPS rfl rfl rw33 rfl rfl rfl) ?_ | refine Pstep.go (st_loadRS rfl rfl (rfl) rfl rw33 rfl) ?_
      refine Pstep.go (st_callP (clone_p S[k] (by omega) (by omega) (by omega)) rfl rfl) ?_
      refine Estep.go (st_storeP rfl rfl rfl rfl rfl rfl rfl sz33) ?_
      refine Pstep.go (st_assign rfl rfl) ?_
      refine o_nil ?_
      refine a_ret ?_
      exact ⟨_, [], [], res_of rfl, rfl, rfl, by rw [itemF_at hk1 hk h18], rfl⟩
    · refine a_skip ?_
      refine a_region ?_
      refine Pstep.go (st_add rfl rfl (wrapS (k + 1) (by omega)) rfl) ?_
      refine Pstep.go (st_move rfl rfl) ?_
      refine o_nil ?_
      exact ⟨k + 1, ⟨by show k + 1 ≤ _; omega, nmem_next hk1 hk h18⟩, by show S.length - (k + 1) < S.length - k; omega, lep_of hF [2] rfl (rfl) ⟨rfl, rfl, rfl, rfl, rfl, trivial⟩⟩
  · refine a_exit ?_
    refine a_seq ?_
    refine a_region ?_
    refine Pstep.go (st_build zl33 pl33 rfl rfl rfl) ?_
    refine o_weakD 22 (itmD itm0) rfl itm0_weak ?_
    refine Estep.go (st_storeP rfl rfl rfl rfl rfl rfl rfl sz33) ?_
    refine Pstep.go (st_assign rfl rfl) ?_
    refine o_nil ?_
    refine a_ret ?_
    exact ⟨_, [], [], res_of rfl, rfl, rfl, by rw [itemF_no (by rw [List.take_of_length_le (by have h := h12; omega)] at hk; exact hk)], rfl⟩
end Go.Proofs.Ytfmpiabmnjmobaa

/- Layer 28, plain: items by id. -/
namespace Go.Proofs.Ytfmpiabmnjmobaa
open Go.RowKit

theorem itemF_mem {l : List Itm} {id : Int} (h : id ∈ l.map Itm.id) : ∃ x ∈ l, x.id = id ∧ itemF l id = (x, true) := by
  unfold itemF
  cases hf : l.find? (fun x => decide (x.id = id)) with
  | none =>
    rw [List.find?_eq_none] at hf
    obtain ⟨x, hx, e⟩ := List.mem_map.1 h
    exact absurd (by simpa using e) (hf x hx)
  | some x => exact ⟨x, List.mem_of_find?_eq_some hf, by simpa using List.find?_some hf, rfl⟩
theorem ids_inj {l : List Itm} (hn : (l.map Itm.id).Nodup) {x y : Itm} (hx : x ∈ l) (hy : y ∈ l) (h : x.id = y.id) : x = y := by
  induction l with
  | nil => cases hx
  | cons a l ih =>
    rw [List.map_cons, List.nodup_cons] at hn
    rcases List.mem_cons.1 hx with e1 | hx' <;> rcases List.mem_cons.1 hy with e2 | hy'
    · rw [e1, e2]
    · exact absurd (List.mem_map.2 ⟨y, hy', by rw [← h, e1]⟩) hn.1
    · exact absurd (List.mem_map.2 ⟨x, hx', by rw [h, e2]⟩) hn.1
    · exact ih hn.2 hx' hy'
theorem items_ids {l : List Itm} (h : itemsE l = 0) : (l.map Itm.id).Nodup := by
  have h0 := fst0_zero.1 h
  rw [List.Nodup, List.pairwise_map, List.pairwise_iff_getElem]
  intro i j hi hj hij e
  have := h0 j (List.mem_range.2 hj)
  unfold iErr at this
  rw [getD_at itm0 hj] at this
  split at this
  · contradiction
  · split at this
    · cases this
    · rename_i hn
      exact hn (.inl (mem_tk hj hij e))
end Go.Proofs.Ytfmpiabmnjmobaa
