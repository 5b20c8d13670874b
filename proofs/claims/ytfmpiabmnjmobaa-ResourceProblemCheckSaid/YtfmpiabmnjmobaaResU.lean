/- Layer 28: a problem's rooms. -/
import Derived.Test.YtfmpiabmnjmobaaResZ
namespace Go.Proofs.Ytfmpiabmnjmobaa
open Go.RowKit

abbrev boolD (b : Bool) : D := .raw (.bool b)
def setM {α : Type} (l : List α) : List (α × Bool) := l.map fun a => (a, true)
theorem setM_get {α : Type} [DecidableEq α] (l : List α) (a : α) : mget (setM l) a false = decide (a ∈ l) := by
  induction l with
  | nil => rfl
  | cons b l ih =>
    simp only [setM, List.map_cons, mget]
    by_cases h : a = b
    · rw [if_pos h]; simp [h]
    · rw [if_neg h]; simp only [setM] at ih; rw [ih]; simp [h]
theorem setM_put {α : Type} [DecidableEq α] {l : List α} {a : α} (h : a ∉ l) : mput (setM l) a true = setM (l ++ [a]) := by
  induction l with
  | nil => rfl
  | cons b l ih =>
    simp only [List.mem_cons, not_or] at h
    simp only [setM, List.map_cons, List.cons_append, mput]
    rw [if_neg h.1]
    have := ih h.2
    simp only [setM] at this
    rw [this]
def roo0 : Roo := ⟨⟨0, accZ, [], []⟩, 0⟩
def rErr (l : List Roo) (k : Nat) : Int := if validE (l.getD k roo0).r ≠ 0 then validE (l.getD k roo0).r else if ¬ (-4 * Mx ≤ (l.getD k roo0).n ∧ (l.getD k roo0).n ≤ 4 * Mx) then 12 else if (l.getD k roo0).r ∈ (l.take k).map Roo.r then 7 else 0
def roomsE (l : List Roo) : Int := fst0 ((List.range l.length).map (rErr l))
theorem getD_at {α : Type} {l : List α} {k : Nat} (d : α) (h : k < l.length) : l.getD k d = l[k] := by rw [List.getD_eq_getElem?_getD, List.getElem?_eq_getElem h]; rfl
theorem tk_map {α β : Type} {l : List α} {f : α → β} {k : Nat} (hk : k < l.length) : (l.take (k + 1)).map f = (l.take k).map f ++ [f l[k]] := by rw [List.take_succ_eq_append_getElem hk, List.map_append]; rfl
set_option maxRecDepth 100000 in
theorem rooms_p (p : Prb) (hl : p.ro.length ≤ 100000) : PCalls Try.prog 71 [.d (prbD p)] (intD (roomsE p.ro)) := by
  refine a_enter Try.func71 rfl rfl Try.ntmps71 rfl rfl rfl fun F hF => ?_
  refine a_seq ?_
  refine a_region ?_
  refine Estep.go (st_box 1 rfl rfl rfl rfl rfl rfl rfl) ?_
  refine Pstep.go (st_assign rfl rfl) ?_
  refine o_nil ?_
  refine a_seq ?_
  refine a_region ?_
  refine Estep.go (st_makeMap 2 rfl rfl rfl rfl) ?_
  refine Pstep.go (st_assign rfl rfl) ?_
  refine o_nil ?_
  refine a_seq ?_
  refine a_seq ?_
  refine a_region ?_
  first | refine Pstep.go (st_fieldP rfl fi72_0 rfl rfl rfl) ?_ | refine Pstep.go (st_fieldF1 rfl fi72_0 rfl rfl rfl) ?_ | refine Pstep.go (st_fieldFS rfl fi72_0 rfl rfl rfl) ?_ | refine Pstep.go (st_fieldR rfl fi72_0 rfl rfl rfl) ?_
  first | refine Pstep.go (st_loadD1 rfl rfl on69 rfl) ?_ | refine Pstep.go (st_loadP rfl rfl rfl on69 rfl) ?_ | refine Pstep.go (st_loadR rfl rfl (rfl) rfl on69 rfl) ?_
  first | refine Pstep.go (st_lenMap rfl Try.underlying69 rfl) ?_ | refine Pstep.go (st_lenD rfl rfl Try.underlying69 rfl) ?_ | refine Pstep.go (st_lenO rfl Try.underlying69 rfl) ?_ | refine Pstep.go (st_lenSL rfl Try.underlying69 rfl) ?_ | refine Pstep.go (st_lenS rfl Try.underlying69 rfl) ?_
  refine Pstep.go (st_move rfl rfl) ?_
  refine o_nil ?_
  refine a_block ?_
  refine a_loopP (α := Nat) (fun k => ⟨35, [(3, (.map 2 0)), (9, (.d (.sl none (p.ro.map rooD)))), (10, (.d (intD (p.ro.length : Int)))), (11, (.d (intD (k : Int))))], [(2, [mapC rscD boolD (setM ((p.ro.take k).map Roo.r))])]⟩) (fun k => k ≤ p.ro.length ∧ roomsE p.ro = fst0 (((List.range p.ro.length).drop k).map (rErr p.ro))) (fun k => p.ro.length - k) (0) (⟨Nat.zero_le _, rfl⟩) (lep_of hF [2] rfl rfl ⟨rfl, rfl, rfl, rfl, trivial⟩) ?_
  rintro k ⟨hk0, hk⟩
  refine a_seq ?_
  refine a_region ?_
  first | refine Pstep.go (st_lss rfl rfl rfl) ?_ | refine Pstep.go (st_lssS rfl rfl rfl) ?_
  refine o_nil ?_
  refine a_seq ?_
  first | refine a_if rfl (fun h12 => ?_) (fun h12 => ?_) | refine a_cond rfl (fun h12 => ?_) (fun h12 => ?_)
  · have hk1 : k < p.ro.length := lt_cast h12
    refine a_skip ?_
    refine a_seq ?_
    refine a_block ?_
    refine a_seq ?_
    refine a_region ?_
    have hE := range_cases hk1 hk
    have hgd := getD_at roo0 hk1
    first | refine Pstep.go (st_indexD (k) rfl rfl (rfl) (getm hk1) Try.underlying69 rfl sz124 rfl) ?_ | refine Pstep.go (st_indexO (k) rfl rfl (rfl) (getm hk1) rfl Try.underlying69 sz124 rfl) ?_
    first | refine Pstep.go (st_loadDS rfl rfl rw124 rfl) ?_ | refine Pstep.go (st_loadPS rfl rfl rw124 rfl rfl rfl) ?_ | refine Pstep.go (st_loadRS rfl rfl (rfl) rfl rw124 rfl) ?_
    refine Estep.go (st_alloc 3 zl124 rfl rfl rfl rfl) ?_
    refine Estep.go (st_storeP rfl rfl rfl rfl rfl rfl rfl sz124) ?_
    refine o_nil ?_
    refine a_seq ?_
    refine a_seq ?_
    refine a_region ?_
    first | refine Pstep.go (st_fieldP rfl fi124_0 rfl rfl rfl) ?_ | refine Pstep.go (st_fieldF1 rfl fi124_0 rfl rfl rfl) ?_ | refine Pstep.go (st_fieldFS rfl fi124_0 rfl rfl rfl) ?_ | refine Pstep.go (st_fieldR rfl fi124_0 rfl rfl rfl) ?_
    first | refine Pstep.go (st_loadDS rfl rfl rw43 rfl) ?_ | refine Pstep.go (st_loadPS rfl rfl rw43 rfl rfl rfl) ?_ | refine Pstep.go (st_loadRS rfl rfl (rfl) rfl rw43 rfl) ?_
    refine Pstep.go (st_callP (valid_p p.ro[k].r) rfl rfl) ?_
    refine Pstep.go (st_assign rfl rfl) ?_
    refine o_nil ?_
    refine a_seq ?_
    refine a_region ?_
    refine Pstep.go (st_move rfl rfl) ?_
    first | refine Pstep.go (st_neq rfl rfl rfl) ?_ | refine Pstep.go (st_neqSL rfl rfl rfl) ?_ | refine Pstep.go (st_neqS rfl rfl rfl) ?_ | refine Pstep.go (st_neqB Try.underlying29 rfl rfl rfl) ?_ | refine Pstep.go (st_neqP Try.underlying29 rfl rfl rfl) ?_ | refine Pstep.go (st_neqN Try.underlying29 rfl rfl) ?_ | refine Pstep.go (st_neqF Try.underlying29 rfl rfl rfl) ?_ | refine Pstep.go (st_neqFN Try.underlying29 rfl rfl) ?_
    refine o_nil ?_
    first | refine a_if rfl (fun h19 => ?_) (fun h19 => ?_) | refine a_cond rfl (fun h19 => ?_) (fun h19 => ?_)
    · refine a_seq ?_
      refine a_region ?_
      refine Pstep.go (st_move rfl rfl) ?_
      refine Pstep.go (st_assign rfl rfl) ?_
      refine o_nil ?_
      refine a_ret ?_
      exact ⟨_, [], [], res_of rfl, rfl, rfl, retI (hE.2 _ (by unfold rErr; rw [hgd, if_pos h19]) h19), rfl⟩
    · refine a_skip ?_
      refine a_seq ?_
      refine a_block ?_
      refine a_seq ?_
      refine a_region ?_
      first | refine Pstep.go (st_fieldP rfl fi124_1 rfl rfl rfl) ?_ | refine Pstep.go (st_fieldF1 rfl fi124_1 rfl rfl rfl) ?_ | refine Pstep.go (st_fieldFS rfl fi124_1 rfl rfl rfl) ?_ | refine Pstep.go (st_fieldR rfl fi124_1 rfl rfl rfl) ?_
      first | refine Pstep.go (st_loadD1 rfl rfl on2 rfl) ?_ | refine Pstep.go (st_loadP rfl rfl rfl on2 rfl) ?_ | refine Pstep.go (st_loadR rfl rfl (rfl) rfl on2 rfl) ?_
      refine Pstep.go (st_callP (within64_p _ _ _) rfl rfl) ?_
      first | refine Pstep.go (st_notP rfl rfl) ?_ | refine Pstep.go (st_not rfl rfl) ?_
      refine Pstep.go (st_assign rfl rfl) ?_
      refine o_nil ?_
      first | refine a_if rfl (fun h21 => ?_) (fun h21 => ?_) | refine a_cond rfl (fun h21 => ?_) (fun h21 => ?_)
      · refine a_seq ?_
        refine a_region ?_
        refine Pstep.go (st_assign rfl rfl) ?_
        refine o_nil ?_
        refine a_ret ?_
        exact ⟨_, [], [], res_of rfl, rfl, rfl, retI (hE.2 12 (by unfold rErr; rw [hgd, if_neg h19, if_pos (by simp only [Mx]; omega)]) (by decide)), rfl⟩
      · refine a_seq ?_
        refine a_region ?_
        refine Pstep.go (st_move rfl rfl) ?_
        first | refine Pstep.go (st_fieldP rfl fi124_0 rfl rfl rfl) ?_ | refine Pstep.go (st_fieldF1 rfl fi124_0 rfl rfl rfl) ?_ | refine Pstep.go (st_fieldFS rfl fi124_0 rfl rfl rfl) ?_ | refine Pstep.go (st_fieldR rfl fi124_0 rfl rfl rfl) ?_
        first | refine Pstep.go (st_loadDS rfl rfl rw43 rfl) ?_ | refine Pstep.go (st_loadPS rfl rfl rw43 rfl rfl rfl) ?_ | refine Pstep.go (st_loadRS rfl rfl (rfl) rfl rw43 rfl) ?_
        refine Pstep.go (st_look (setM ((p.ro.take k).map Roo.r)) (p.ro[k].r) (false) _ rfl rfl rfl mt146 kt43 za4 rfl rfl) ?_
        rw [setM_get]
        refine Pstep.go (st_assign rfl rfl) ?_
        refine o_nil ?_
        first | refine a_if rfl (fun h26 => ?_) (fun h26 => ?_) | refine a_cond rfl (fun h26 => ?_) (fun h26 => ?_)
        · refine a_seq ?_
          refine a_region ?_
          refine Pstep.go (st_assign rfl rfl) ?_
          refine o_nil ?_
          refine a_ret ?_
          exact ⟨_, [], [], res_of rfl, rfl, rfl, retI (hE.2 7 (by unfold rErr; rw [hgd, if_neg h19, if_neg (by simp only [Mx]; omega), if_pos h26]) (by decide)), rfl⟩
        · have hnot : p.ro[k].r ∉ (p.ro.take k).map Roo.r := h26
          refine a_skip ?_
          refine a_region ?_
          refine Pstep.go (st_move rfl rfl) ?_
          first | refine Pstep.go (st_fieldP rfl fi124_0 rfl rfl rfl) ?_ | refine Pstep.go (st_fieldF1 rfl fi124_0 rfl rfl rfl) ?_ | refine Pstep.go (st_fieldFS rfl fi124_0 rfl rfl rfl) ?_ | refine Pstep.go (st_fieldR rfl fi124_0 rfl rfl rfl) ?_
          first | refine Pstep.go (st_loadDS rfl rfl rw43 rfl) ?_ | refine Pstep.go (st_loadPS rfl rfl rw43 rfl rfl rfl) ?_ | refine Pstep.go (st_loadRS rfl rfl (rfl) rfl rw43 rfl) ?_
          first | refine Estep.go (st_mapU (setM ((p.ro.take k).map Roo.r)) (p.ro[k].r) (true) rfl rfl rfl mt146 kt43 rfl rfl) ?_ | refine Estep.go (st_mapUH (setM ((p.ro.take k).map Roo.r)) (p.ro[k].r) (true) rfl rfl rfl mt146 kt43 rfl rfl) ?_
          refine o_nil ?_
          refine a_region ?_
          refine Pstep.go (st_add rfl rfl (wrapS (k + 1) (by omega)) rfl) ?_
          refine Pstep.go (st_move rfl rfl) ?_
          refine o_nil ?_
          exact ⟨k + 1, ⟨by show k + 1 ≤ _; omega, hE.1 (by unfold rErr; rw [hgd, if_neg h19, if_neg (by simp only [Mx]; omega), if_neg hnot])⟩, by show p.ro.length - (k + 1) < p.ro.length - k; omega, lep_of hF [2] rfl (by rw [tk_map hk1, ← setM_put hnot]; rfl) ⟨rfl, rfl, rfl, rfl, trivial⟩⟩
  · refine a_exit ?_
    refine a_seq ?_
    refine a_region ?_
    refine Pstep.go (st_assign rfl rfl) ?_
    refine o_nil ?_
    refine a_ret ?_
    exact ⟨_, [], [], res_of rfl, rfl, rfl, retI (by rw [hk, List.drop_of_length_le (by have h := h12; simp only [List.length_range]; omega)]; rfl), rfl⟩
end Go.Proofs.Ytfmpiabmnjmobaa
