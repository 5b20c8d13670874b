/- Layer 28, plain: the reference's sums and places. -/
import Derived.Test.YtnamabifclidmaaGreatMg16
namespace Go.Proofs.YtnamabifclidmaaGreat
open Go.RowKit

theorem insR_same : ∀ {l : List Rsc} {r : Rsc} {k : Nat}, (∀ x ∈ l.take k, cmpR x r < 0) → l[k]? = some r → insR l r = l
  | [], _, _, _, h => by simp at h
  | a :: l, r, 0, _, h => by
    simp at h; subst h
    simp [insR, cmpR_pc.refl]
  | a :: l, r, k + 1, h1, h => by
    have h2 : cmpR a r < 0 := h1 a (by simp)
    simp only [insR, if_pos h2]
    rw [insR_same (k := k) (fun x hx => h1 x (by simp [hx])) (by simpa using h)]
theorem insR_new : ∀ {l : List Rsc} {r : Rsc} {k : Nat}, k ≤ l.length → (∀ x ∈ l.take k, cmpR x r < 0) → (∀ x, l[k]? = some x → ¬ cmpR x r < 0 ∧ x ≠ r) → insR l r = (l.take k ++ [r]) ++ l.drop k
  | [], r, 0, _, _, _ => rfl
  | [], r, k + 1, h, _, _ => by simp at h
  | a :: l, r, 0, _, _, h => by
    obtain ⟨h1, h2⟩ := h a rfl
    simp [insR, if_neg h1, if_neg h2]
  | a :: l, r, k + 1, hk, h1, h => by
    have h2 : cmpR a r < 0 := h1 a (by simp)
    simp only [insR, if_pos h2]
    rw [insR_new (k := k) (by simpa using hk) (fun x hx => h1 x (by simp [hx])) (fun x hx => h x (by simpa using hx))]
    simp
theorem insR_len (l : List Rsc) (r : Rsc) : (insR l r).length ≤ l.length + 1 := by
  induction l with
  | nil => simp [insR]
  | cons a l ih =>
    simp only [insR]; split
    · simp only [List.length_cons]; omega
    · split <;> simp only [List.length_cons] <;> omega
theorem touL_len (c : List (Rsc × Int)) : (touL c).length ≤ c.length := by
  induction c using snoc_ind with
  | h0 => simp [touL]
  | h1 l x ih => rw [touL_snoc]; have := insR_len (touL l) x.1; simp only [List.length_append, List.length_singleton]; omega
def pd (r : Rsc) (p : Post) : Int := if p.acc = r.acc then p.d else 0
def yd1 (r : Rsc) (p : Pay) : Int := if p.f = r.f ∧ (r.k = 2 ∨ p.t = r.t) then p.n else 0
def yd2 (r : Rsc) (p : Pay) : Int := if p.t = r.f ∧ (r.k = 2 ∨ p.f = r.t) then p.n else 0
def yd (r : Rsc) (p : Pay) : Int := - yd1 r p + yd2 r p
def rdelta (i : Itm) (r : Rsc) : Int := if r.k = 0 then (i.po.map (pd r)).sum else (i.pa.map (yd r)).sum
theorem ctrSum_zero {l : List (Rsc × Int)} {r : Rsc} (h : ∀ x ∈ l, x.1 ≠ r) : ctrSum l r = 0 := by
  induction l with
  | nil => rfl
  | cons x l ih =>
    have h1 := h x (by simp)
    have h2 := ih fun y hy => h y (by simp [hy])
    simp only [ctrSum, List.map_cons, List.sum_cons] at h2 ⊢
    rw [if_neg h1, h2]; rfl
theorem ctrSum_flat {α : Type} (l : List α) (f : α → List (Rsc × Int)) (r : Rsc) : ctrSum (l.flatMap f) r = (l.map fun a => ctrSum (f a) r).sum := by
  induction l with
  | nil => rfl
  | cons a l ih => rw [List.flatMap_cons, ctrSum_append, ih]; rfl
theorem rdelta_eq {i : Itm} {r : Rsc} (h : validE r = 0) : rdelta i r = ctrSum (ctr i) r := by
  unfold rdelta ctr
  rw [ctrSum_append]
  unfold validE at h
  split at h
  · rename_i hk
    split at h
    · rename_i hv
      rw [if_pos hk]
      have h2 : ctrSum (ctrY i.pa) r = 0 := ctrSum_zero fun x hx e => by
        obtain ⟨p, _, hp⟩ := List.mem_flatMap.1 hx
        simp only [ctr1, List.mem_cons, List.not_mem_nil, or_false] at hp
        rw [← e] at hk
        rcases hp with rfl | rfl | rfl | rfl <;> simp at hk
      rw [h2, Int.add_zero]
      unfold ctrSum ctrP
      rw [List.map_map]
      congr 1
      apply List.map_congr_left
      intro p _
      simp only [pd, Function.comp, rPost]
      have e : (({ k := 0, acc := p.acc, f := [], t := [] } : Rsc) = r) ↔ p.acc = r.acc := by
        rw [Rsc.eq_iff]; simp [hk, hv.2.2.2.2.1, hv.2.2.2.2.2]
      by_cases hh : p.acc = r.acc
      · rw [if_pos hh, if_pos (e.2 hh)]
      · rw [if_neg hh, if_neg (fun h => hh (e.1 h))]
    · cases h
  · rename_i hk
    rw [if_neg hk]
    have h2 : ctrSum (ctrP i.po) r = 0 := ctrSum_zero fun x hx e => by
      obtain ⟨p, _, rfl⟩ := List.mem_map.1 hx
      rw [← e] at hk; simp at hk
    rw [h2, Int.zero_add]
    unfold ctrY
    rw [ctrSum_flat]
    congr 1
    apply List.map_congr_left
    intro p _
    simp only [yd, yd1, yd2, ctr1, ctrSum, List.map_cons, List.map_nil, List.sum_cons, List.sum_nil, rBil, rMul, Rsc.eq_iff]
    split at h
    · rename_i hk1
      split at h
      · rename_i hv
        have hac : (acc0 = r.acc) = True := eq_true hv.2.2.2.symm
        simp only [hk1, hac]
        have q1 : ¬ (1 : Int) = 2 := by decide
        have q2 : ¬ (2 : Int) = 1 := by decide
        simp only [q1, q2, false_and, false_or, true_and, if_false]
        by_cases b1 : p.f = r.f ∧ p.t = r.t
        · by_cases b2 : p.t = r.f ∧ p.f = r.t
          · rw [if_pos b1, if_pos b2, if_pos b1]; omega
          · rw [if_pos b1, if_neg b2, if_pos b1]; omega
        · by_cases b2 : p.t = r.f ∧ p.f = r.t
          · rw [if_neg b1, if_pos b2, if_neg b1]; omega
          · rw [if_neg b1, if_neg b2, if_neg b1]; omega
      · cases h
    · split at h
      · rename_i hk2
        split at h
        · rename_i hv
          have hac : (acc0 = r.acc) = True := eq_true hv.2.2.symm
          simp only [hk2, hac, hv.2.1]
          by_cases a1 : p.f = r.f <;> by_cases a3 : p.t = r.f <;> simp [a1, a3] <;> omega
        · cases h
      · cases h
end Go.Proofs.YtnamabifclidmaaGreat

/- Layer 28: the reference's parts, touched, delta. -/
namespace Go.Proofs.YtnamabifclidmaaGreat
open Go.RowKit

set_option maxRecDepth 100000 in
theorem insert_p (l : List Rsc) (r : Rsc) (hl : l.length ≤ 100000) : PCalls Tryz.prog 107 [.d (.sl none (l.map rscD)), .d (rscD r)] (.sl none ((insR l r).map rscD)) := by
  refine a_enter Tryz.func107 rfl rfl Tryz.ntmps107 rfl rfl rfl fun F hF => ?_
  refine a_seq ?_
  refine a_region ?_
  refine Estep.go (st_box 1 rfl rfl rfl rfl rfl rfl rfl) ?_
  refine Pstep.go (st_assign rfl rfl) ?_
  refine o_nil ?_
  refine a_seq ?_
  refine a_region ?_
  refine Pstep.go (st_assign rfl rfl) ?_
  refine o_nil ?_
  refine a_seq ?_
  refine a_block ?_
  refine a_loopP (α := Nat) (fun k => ⟨49, [(0, .d (.sl none (l.map rscD))), (3, (.ptr 1 0 0)), (5, (.d (intD (k : Int))))], [(1, [.blk 52 [.d (intD r.k), .d (strD r.acc.o), .d (intD r.acc.k), .d (strD r.acc.a), .d (strD r.f), .d (strD r.t)]])]⟩) (fun k => k ≤ l.length ∧ ∀ x ∈ l.take k, cmpR x r < 0) (fun k => l.length - k) (0) (⟨Nat.zero_le _, by simp⟩) (lep_of hF [1] rfl rfl ⟨rfl, rfl, rfl, trivial⟩) ?_
  rintro k ⟨hk0, hk⟩
  refine a_seq ?_
  refine a_seq ?_
  refine a_drawn [[], [], [1], [0, 1, 2], [0, 1, 2, 3], [0, 1, 2, 3, 4], [0, 1, 2, 3, 4], [0, 1, 2, 3, 4, 5, 6], [0, 1, 2, 3, 4, 5, 6, 7], [0, 1, 2, 3, 4], [0, 1, 2, 3, 4, 5, 6, 7, 8, 9], [0, 1, 2, 3, 4, 5, 6, 7, 8, 9, 10], [0, 1, 2, 3, 4, 5, 6, 7, 8, 9, 10, 11]] mixed rfl ?_
  refine dws ?_
  refine d_pure [5] [] rfl rfl (fun _ => gp_none (st_move rfl rfl)) ?_
  refine d_pure [0] [] rfl rfl (fun _ => gp_none (st_move rfl rfl)) ?_
  refine d_pure [8] [] rfl rfl (fun _ => gp_none (st_lenMap rfl Tryz.underlying161 rfl)) ?_
  refine dwc 3 rfl rfl rfl ?_
  refine dw1 4 rfl rfl ?_
  refine Pstep.go (st_lss rfl rfl rfl) ?_
  refine o_nil ⟨rfl, ?_⟩
  refine dw1 5 rfl rfl ?_
  refine Pstep.go (st_move rfl rfl) ?_
  refine o_splitP 11 rfl (fun h11 => ?_) (fun h11 => ?_)
  · refine o_nil ⟨rfl, ?_⟩
    refine dws ?_
    try have hk1 : k < l.length := lt_cast h11
    refine d_pure [0, 11] [] rfl rfl (fun _ => gp_run rfl rfl rfl (st_move rfl rfl)) ?_
    refine d_pure [5, 11] [] rfl rfl (fun _ => gp_run rfl rfl rfl (st_move rfl rfl)) ?_
    refine d_pure [12, 13, 11] [] rfl rfl (fun _ => gp_run rfl rfl rfl (st_indexD (k) rfl rfl (rfl) (getm hk1) Tryz.underlying161 rfl sz52 rfl)) ?_
    refine d_pure [14, 11] [] rfl rfl (fun _ => gp_run rfl rfl rfl (st_loadDS rfl rfl rw52 rfl)) ?_
    refine d_pureA [3, 11] rfl rfl (fun _ => gp_run rfl rfl rfl (st_loadPS rfl rfl rw52 rfl rfl rfl)) ?_
    refine dwc 10 rfl rfl rfl ?_
    refine dw1 11 rfl rfl ?_
    refine o_run rfl rfl rfl ?_
    refine Pstep.go (st_callP (refcompare_p l[k] r) rfl rfl) ?_
    refine o_nil ⟨rfl, ?_⟩
    refine dw1 12 rfl rfl ?_
    refine o_run rfl rfl rfl ?_
    refine Pstep.go (st_lss rfl rfl rfl) ?_
    refine o_nil ⟨rfl, ?_⟩
    refine dw1 13 rfl rfl ?_
    refine Pstep.go (st_pickT rfl rfl rfl rfl) ?_
    refine o_nil ⟨rfl, ?_⟩
    refine dwe ?_
    refine a_if rfl (fun h19 => ?_) (fun h19 => ?_)
    · refine a_skip ?_
      refine a_block ?_
      refine a_region ?_
      refine Pstep.go (st_move rfl rfl) ?_
      refine Pstep.go (st_add rfl rfl (wrapS (k + 1) (by omega)) rfl) ?_
      refine Pstep.go (st_assign rfl rfl) ?_
      refine o_nil ?_
      exact ⟨k + 1, ⟨by show k + 1 ≤ _; omega, by rw [List.take_succ_eq_append_getElem hk1]; intro x hx; rcases List.mem_append.1 hx with hx | hx; exact hk x hx; rw [List.mem_singleton.1 hx]; exact h19⟩, by show l.length - (k + 1) < l.length - k; omega, lep_of hF [1] rfl (rfl) ⟨rfl, rfl, rfl, trivial⟩⟩
    · refine a_exit ?_
      refine a_seq ?_
      refine a_seq ?_
      refine a_drawn [[], [], [1], [0, 1, 2], [0, 1, 2, 3], [0, 1, 2, 3, 4], [0, 1, 2, 3, 4], [0, 1, 2, 3, 4, 5, 6], [0, 1, 2, 3, 4, 5, 6, 7], [0, 1, 2, 3, 4], [0, 1, 2, 3, 4, 5, 6, 7, 8, 9], [0, 1, 2, 3, 4, 5, 6, 7, 8, 9, 10]] mixed rfl ?_
      refine dws ?_
      refine d_pure [5] [] rfl rfl (fun _ => gp_none (st_move rfl rfl)) ?_
      refine d_pure [0] [] rfl rfl (fun _ => gp_none (st_move rfl rfl)) ?_
      refine d_pure [23] [] rfl rfl (fun _ => gp_none (st_lenMap rfl Tryz.underlying161 rfl)) ?_
      refine dwc 3 rfl rfl rfl ?_
      refine dw1 4 rfl rfl ?_
      refine Pstep.go (st_lss rfl rfl rfl) ?_
      refine o_nil ⟨rfl, ?_⟩
      refine dw1 5 rfl rfl ?_
      refine Pstep.go (st_move rfl rfl) ?_
      refine o_splitP 26 rfl (fun h26 => ?_) (fun h26 => ?_)
      · refine o_nil ⟨rfl, ?_⟩
        refine dws ?_
        try have hk1 : k < l.length := lt_cast h26
        refine d_pure [0, 26] [] rfl rfl (fun _ => gp_run rfl rfl rfl (st_move rfl rfl)) ?_
        refine d_pure [5, 26] [] rfl rfl (fun _ => gp_run rfl rfl rfl (st_move rfl rfl)) ?_
        refine d_pure [27, 28, 26] [] rfl rfl (fun _ => gp_run rfl rfl rfl (st_indexD (k) rfl rfl (rfl) (getm hk1) Tryz.underlying161 rfl sz52 rfl)) ?_
        refine d_pure [29, 26] [] rfl rfl (fun _ => gp_run rfl rfl rfl (st_loadDS rfl rfl rw52 rfl)) ?_
        refine d_pureA [3, 26] rfl rfl (fun _ => gp_run rfl rfl rfl (st_loadPS rfl rfl rw52 rfl rfl rfl)) ?_
        refine dwc 10 rfl rfl rfl ?_
        refine dw1 11 rfl rfl ?_
        refine o_run rfl rfl rfl ?_
        refine Pstep.go (st_eqlSt (la := rscC l[k]) (lb := rscC r) (ds := rscT) (by kernel_rfl) (by kernel_rfl) (by kernel_rfl) rfl rfl rfl rfl (rsc_plain _) (rsc_plain _) (rsc_eqC _ _) rfl) ?_
        refine o_nil ⟨rfl, ?_⟩
        refine dw1 12 rfl rfl ?_
        refine Pstep.go (st_pickT rfl rfl rfl rfl) ?_
        refine o_nil ⟨rfl, ?_⟩
        refine dwe ?_
        refine a_if rfl (fun h33 => ?_) (fun h33 => ?_)
        · refine a_seq ?_
          refine a_region ?_
          refine Pstep.go (st_move rfl rfl) ?_
          refine Pstep.go (st_assign rfl rfl) ?_
          refine o_nil ?_
          refine a_ret ?_
          exact ⟨_, [], [], res_of rfl, rfl, rfl, by rw [insR_same hk ((List.getElem?_eq_getElem hk1).trans (by rw [h33]))], rfl⟩
        · refine a_skip ?_
          refine a_seq ?_
          refine a_region ?_
          refine Estep.go (st_buildSlice 20 sl161 rfl rfl rfl rfl rfl rfl rfl rfl) ?_
          refine Pstep.go (st_move rfl rfl) ?_
          refine Pstep.go (st_move rfl rfl) ?_
          refine Pstep.go (st_sliceHiM (l) (k) rfl rfl rfl (rfl) (by omega) Tryz.underlying161 sz52 (fun _ => rfl) rfl) ?_
          refine Estep.go (st_appMD (([] : List Rsc)) (l.take k) rfl rfl rfl rfl rfl rfl (fun _ => rfl) sl161 (by simp only [List.length_nil, List.length_take]; omega) rfl rfl rfl rfl) ?_
          refine Pstep.go (st_assign rfl rfl) ?_
          refine o_nil ?_
          refine a_seq ?_
          refine a_region ?_
          refine Pstep.go (st_move rfl rfl) ?_
          refine Pstep.go (st_loadPS rfl rfl rw52 rfl rfl rfl) ?_
          refine Estep.go (st_buildSlice 21 sl161 rfl rfl rfl rfl rfl rfl rfl rfl) ?_
          refine Estep.go (st_appM (([] ++ l.take k)) ([r]) rfl rfl rfl rfl rfl rfl rfl rfl sl161 (by simp only [List.nil_append, List.length_singleton, List.length_take]; omega) rfl rfl rfl rfl) ?_
          refine Pstep.go (st_assign rfl rfl) ?_
          refine o_nil ?_
          refine a_seq ?_
          refine a_region ?_
          refine Pstep.go (st_move rfl rfl) ?_
          refine Pstep.go (st_move rfl rfl) ?_
          refine Pstep.go (st_move rfl rfl) ?_
          refine Pstep.go (st_sliceLoM (l) (k) rfl rfl rfl (rfl) (by omega) Tryz.underlying161 sz52 (fun _ => rfl) rfl) ?_
          refine Estep.go (st_appMD ((([] ++ l.take k) ++ [r])) (l.drop k) rfl rfl rfl rfl rfl rfl (fun _ => rfl) sl161 (by simp only [List.nil_append, List.length_append, List.length_singleton, List.length_take, List.length_drop]; omega) rfl rfl rfl rfl) ?_
          refine o_freezeM (emb := rscD) 48 20 ((([] ++ l.take k) ++ [r]) ++ l.drop k) rfl rfl rfl rfl rfl rfl rfl ?_
          refine Pstep.go (st_assign rfl rfl) ?_
          refine o_nil ?_
          refine a_ret ?_
          exact ⟨_, [], [], res_of rfl, rfl, rfl, by rw [insR_new hk0 hk fun x hx => by first | (exact absurd (List.getElem?_eq_some_iff.1 hx).1 (by omega)) | (rw [List.getElem?_eq_getElem hk1] at hx; injection hx with hx; subst hx; exact ⟨h19, h33⟩)]; rfl, rfl⟩
      · refine o_nil ⟨rfl, ?_⟩
        refine dws ?_
        try have hk1 : k < l.length := lt_cast h26
        refine d_pure [0, 26] [] rfl rfl (fun _ => gp_pass rfl rfl rfl rfl) ?_
        refine d_pure [5, 26] [] rfl rfl (fun _ => gp_pass rfl rfl rfl rfl) ?_
        refine d_pure [27, 28, 26] [] rfl rfl (fun _ => gp_pass rfl rfl rfl rfl) ?_
        refine d_pure [29, 26] [] rfl rfl (fun _ => gp_pass rfl rfl rfl rfl) ?_
        refine d_pure [3, 26] [] rfl rfl (fun _ => gp_pass rfl rfl rfl rfl) ?_
        refine dwc 10 rfl rfl rfl ?_
        refine dw1 11 rfl rfl ?_
        refine o_pass rfl rfl rfl rfl ?_
        refine o_nil ⟨rfl, ?_⟩
        refine dw1 12 rfl rfl ?_
        refine Pstep.go (st_pickF rfl rfl rfl rfl) ?_
        refine o_nil ⟨rfl, ?_⟩
        refine dwe ?_
        refine a_false rfl rfl ?_
        refine a_skip ?_
        refine a_seq ?_
        refine a_region ?_
        refine Estep.go (st_buildSlice 20 sl161 rfl rfl rfl rfl rfl rfl rfl rfl) ?_
        refine Pstep.go (st_move rfl rfl) ?_
        refine Pstep.go (st_move rfl rfl) ?_
        refine Pstep.go (st_sliceHiM (l) (k) rfl rfl rfl (rfl) (by omega) Tryz.underlying161 sz52 (fun _ => rfl) rfl) ?_
        refine Estep.go (st_appMD (([] : List Rsc)) (l.take k) rfl rfl rfl rfl rfl rfl (fun _ => rfl) sl161 (by simp only [List.length_nil, List.length_take]; omega) rfl rfl rfl rfl) ?_
        refine Pstep.go (st_assign rfl rfl) ?_
        refine o_nil ?_
        refine a_seq ?_
        refine a_region ?_
        refine Pstep.go (st_move rfl rfl) ?_
        refine Pstep.go (st_loadPS rfl rfl rw52 rfl rfl rfl) ?_
        refine Estep.go (st_buildSlice 21 sl161 rfl rfl rfl rfl rfl rfl rfl rfl) ?_
        refine Estep.go (st_appM (([] ++ l.take k)) ([r]) rfl rfl rfl rfl rfl rfl rfl rfl sl161 (by simp only [List.nil_append, List.length_singleton, List.length_take]; omega) rfl rfl rfl rfl) ?_
        refine Pstep.go (st_assign rfl rfl) ?_
        refine o_nil ?_
        refine a_seq ?_
        refine a_region ?_
        refine Pstep.go (st_move rfl rfl) ?_
        refine Pstep.go (st_move rfl rfl) ?_
        refine Pstep.go (st_move rfl rfl) ?_
        refine Pstep.go (st_sliceLoM (l) (k) rfl rfl rfl (rfl) (by omega) Tryz.underlying161 sz52 (fun _ => rfl) rfl) ?_
        refine Estep.go (st_appMD ((([] ++ l.take k) ++ [r])) (l.drop k) rfl rfl rfl rfl rfl rfl (fun _ => rfl) sl161 (by simp only [List.nil_append, List.length_append, List.length_singleton, List.length_take, List.length_drop]; omega) rfl rfl rfl rfl) ?_
        refine o_freezeM (emb := rscD) 48 20 ((([] ++ l.take k) ++ [r]) ++ l.drop k) rfl rfl rfl rfl rfl rfl rfl ?_
        refine Pstep.go (st_assign rfl rfl) ?_
        refine o_nil ?_
        refine a_ret ?_
        exact ⟨_, [], [], res_of rfl, rfl, rfl, by rw [insR_new hk0 hk fun x hx => by first | (exact absurd (List.getElem?_eq_some_iff.1 hx).1 (by omega)) | (rw [List.getElem?_eq_getElem hk1] at hx; injection hx with hx; subst hx; exact ⟨h19, h33⟩)]; rfl, rfl⟩
  · refine o_nil ⟨rfl, ?_⟩
    refine dws ?_
    try have hk1 : k < l.length := lt_cast h11
    refine d_pure [0, 11] [] rfl rfl (fun _ => gp_pass rfl rfl rfl rfl) ?_
    refine d_pure [5, 11] [] rfl rfl (fun _ => gp_pass rfl rfl rfl rfl) ?_
    refine d_pure [12, 13, 11] [] rfl rfl (fun _ => gp_pass rfl rfl rfl rfl) ?_
    refine d_pure [14, 11] [] rfl rfl (fun _ => gp_pass rfl rfl rfl rfl) ?_
    refine d_pure [3, 11] [] rfl rfl (fun _ => gp_pass rfl rfl rfl rfl) ?_
    refine dwc 10 rfl rfl rfl ?_
    refine dw1 11 rfl rfl ?_
    refine o_pass rfl rfl rfl rfl ?_
    refine o_nil ⟨rfl, ?_⟩
    refine dw1 12 rfl rfl ?_
    refine o_pass rfl rfl rfl rfl ?_
    refine o_nil ⟨rfl, ?_⟩
    refine dw1 13 rfl rfl ?_
    refine Pstep.go (st_pickF rfl rfl rfl rfl) ?_
    refine o_nil ⟨rfl, ?_⟩
    refine dwe ?_
    refine a_false rfl rfl ?_
    refine a_exit ?_
    refine a_seq ?_
    refine a_seq ?_
    refine a_drawn [[], [], [1], [0, 1, 2], [0, 1, 2, 3], [0, 1, 2, 3, 4], [0, 1, 2, 3, 4], [0, 1, 2, 3, 4, 5, 6], [0, 1, 2, 3, 4, 5, 6, 7], [0, 1, 2, 3, 4], [0, 1, 2, 3, 4, 5, 6, 7, 8, 9], [0, 1, 2, 3, 4, 5, 6, 7, 8, 9, 10]] mixed rfl ?_
    refine dws ?_
    refine d_pure [5] [] rfl rfl (fun _ => gp_none (st_move rfl rfl)) ?_
    refine d_pure [0] [] rfl rfl (fun _ => gp_none (st_move rfl rfl)) ?_
    refine d_pure [23] [] rfl rfl (fun _ => gp_none (st_lenMap rfl Tryz.underlying161 rfl)) ?_
    refine dwc 3 rfl rfl rfl ?_
    refine dw1 4 rfl rfl ?_
    refine Pstep.go (st_lss rfl rfl rfl) ?_
    refine o_nil ⟨rfl, ?_⟩
    refine dw1 5 rfl rfl ?_
    refine Pstep.go (st_move rfl rfl) ?_
    refine o_splitP 26 rfl (fun h26 => ?_) (fun h26 => ?_)
    · refine o_nil ⟨rfl, ?_⟩
      refine dws ?_
      try have hk1 : k < l.length := lt_cast h26
      refine d_pure [0, 26] [] rfl rfl (fun _ => gp_run rfl rfl rfl (st_move rfl rfl)) ?_
      refine d_pure [5, 26] [] rfl rfl (fun _ => gp_run rfl rfl rfl (st_move rfl rfl)) ?_
      refine d_pure [27, 28, 26] [] rfl rfl (fun _ => gp_run rfl rfl rfl (st_indexD (k) rfl rfl (rfl) (getm hk1) Tryz.underlying161 rfl sz52 rfl)) ?_
      refine d_pure [29, 26] [] rfl rfl (fun _ => gp_run rfl rfl rfl (st_loadDS rfl rfl rw52 rfl)) ?_
      refine d_pureA [3, 26] rfl rfl (fun _ => gp_run rfl rfl rfl (st_loadPS rfl rfl rw52 rfl rfl rfl)) ?_
      refine dwc 10 rfl rfl rfl ?_
      refine dw1 11 rfl rfl ?_
      refine o_run rfl rfl rfl ?_
      refine Pstep.go (st_eqlSt (la := rscC l[k]) (lb := rscC r) (ds := rscT) (by kernel_rfl) (by kernel_rfl) (by kernel_rfl) rfl rfl rfl rfl (rsc_plain _) (rsc_plain _) (rsc_eqC _ _) rfl) ?_
      refine o_nil ⟨rfl, ?_⟩
      refine dw1 12 rfl rfl ?_
      refine Pstep.go (st_pickT rfl rfl rfl rfl) ?_
      refine o_nil ⟨rfl, ?_⟩
      refine dwe ?_
      refine a_if rfl (fun h33 => ?_) (fun h33 => ?_)
      · refine a_seq ?_
        refine a_region ?_
        refine Pstep.go (st_move rfl rfl) ?_
        refine Pstep.go (st_assign rfl rfl) ?_
        refine o_nil ?_
        refine a_ret ?_
        exact ⟨_, [], [], res_of rfl, rfl, rfl, by rw [insR_same hk ((List.getElem?_eq_getElem hk1).trans (by rw [h33]))], rfl⟩
      · refine a_skip ?_
        refine a_seq ?_
        refine a_region ?_
        refine Estep.go (st_buildSlice 20 sl161 rfl rfl rfl rfl rfl rfl rfl rfl) ?_
        refine Pstep.go (st_move rfl rfl) ?_
        refine Pstep.go (st_move rfl rfl) ?_
        refine Pstep.go (st_sliceHiM (l) (k) rfl rfl rfl (rfl) (by omega) Tryz.underlying161 sz52 (fun _ => rfl) rfl) ?_
        refine Estep.go (st_appMD (([] : List Rsc)) (l.take k) rfl rfl rfl rfl rfl rfl (fun _ => rfl) sl161 (by simp only [List.length_nil, List.length_take]; omega) rfl rfl rfl rfl) ?_
        refine Pstep.go (st_assign rfl rfl) ?_
        refine o_nil ?_
        refine a_seq ?_
        refine a_region ?_
        refine Pstep.go (st_move rfl rfl) ?_
        refine Pstep.go (st_loadPS rfl rfl rw52 rfl rfl rfl) ?_
        refine Estep.go (st_buildSlice 21 sl161 rfl rfl rfl rfl rfl rfl rfl rfl) ?_
        refine Estep.go (st_appM (([] ++ l.take k)) ([r]) rfl rfl rfl rfl rfl rfl rfl rfl sl161 (by simp only [List.nil_append, List.length_singleton, List.length_take]; omega) rfl rfl rfl rfl) ?_
        refine Pstep.go (st_assign rfl rfl) ?_
        refine o_nil ?_
        refine a_seq ?_
        refine a_region ?_
        refine Pstep.go (st_move rfl rfl) ?_
        refine Pstep.go (st_move rfl rfl) ?_
        refine Pstep.go (st_move rfl rfl) ?_
        refine Pstep.go (st_sliceLoM (l) (k) rfl rfl rfl (rfl) (by omega) Tryz.underlying161 sz52 (fun _ => rfl) rfl) ?_
        refine Estep.go (st_appMD ((([] ++ l.take k) ++ [r])) (l.drop k) rfl rfl rfl rfl rfl rfl (fun _ => rfl) sl161 (by simp only [List.nil_append, List.length_append, List.length_singleton, List.length_take, List.length_drop]; omega) rfl rfl rfl rfl) ?_
        refine o_freezeM (emb := rscD) 48 20 ((([] ++ l.take k) ++ [r]) ++ l.drop k) rfl rfl rfl rfl rfl rfl rfl ?_
        refine Pstep.go (st_assign rfl rfl) ?_
        refine o_nil ?_
        refine a_ret ?_
        exact ⟨_, [], [], res_of rfl, rfl, rfl, by rw [insR_new hk0 hk fun x hx => by first | (exact absurd (List.getElem?_eq_some_iff.1 hx).1 (by omega)) | (rw [List.getElem?_eq_getElem hk1] at hx; injection hx with hx; subst hx; exact ⟨h19, h33⟩)]; rfl, rfl⟩
    · refine o_nil ⟨rfl, ?_⟩
      refine dws ?_
      try have hk1 : k < l.length := lt_cast h26
      refine d_pure [0, 26] [] rfl rfl (fun _ => gp_pass rfl rfl rfl rfl) ?_
      refine d_pure [5, 26] [] rfl rfl (fun _ => gp_pass rfl rfl rfl rfl) ?_
      refine d_pure [27, 28, 26] [] rfl rfl (fun _ => gp_pass rfl rfl rfl rfl) ?_
      refine d_pure [29, 26] [] rfl rfl (fun _ => gp_pass rfl rfl rfl rfl) ?_
      refine d_pure [3, 26] [] rfl rfl (fun _ => gp_pass rfl rfl rfl rfl) ?_
      refine dwc 10 rfl rfl rfl ?_
      refine dw1 11 rfl rfl ?_
      refine o_pass rfl rfl rfl rfl ?_
      refine o_nil ⟨rfl, ?_⟩
      refine dw1 12 rfl rfl ?_
      refine Pstep.go (st_pickF rfl rfl rfl rfl) ?_
      refine o_nil ⟨rfl, ?_⟩
      refine dwe ?_
      refine a_false rfl rfl ?_
      refine a_skip ?_
      refine a_seq ?_
      refine a_region ?_
      refine Estep.go (st_buildSlice 20 sl161 rfl rfl rfl rfl rfl rfl rfl rfl) ?_
      refine Pstep.go (st_move rfl rfl) ?_
      refine Pstep.go (st_move rfl rfl) ?_
      refine Pstep.go (st_sliceHiM (l) (k) rfl rfl rfl (rfl) (by omega) Tryz.underlying161 sz52 (fun _ => rfl) rfl) ?_
      refine Estep.go (st_appMD (([] : List Rsc)) (l.take k) rfl rfl rfl rfl rfl rfl (fun _ => rfl) sl161 (by simp only [List.length_nil, List.length_take]; omega) rfl rfl rfl rfl) ?_
      refine Pstep.go (st_assign rfl rfl) ?_
      refine o_nil ?_
      refine a_seq ?_
      refine a_region ?_
      refine Pstep.go (st_move rfl rfl) ?_
      refine Pstep.go (st_loadPS rfl rfl rw52 rfl rfl rfl) ?_
      refine Estep.go (st_buildSlice 21 sl161 rfl rfl rfl rfl rfl rfl rfl rfl) ?_
      refine Estep.go (st_appM (([] ++ l.take k)) ([r]) rfl rfl rfl rfl rfl rfl rfl rfl sl161 (by simp only [List.nil_append, List.length_singleton, List.length_take]; omega) rfl rfl rfl rfl) ?_
      refine Pstep.go (st_assign rfl rfl) ?_
      refine o_nil ?_
      refine a_seq ?_
      refine a_region ?_
      refine Pstep.go (st_move rfl rfl) ?_
      refine Pstep.go (st_move rfl rfl) ?_
      refine Pstep.go (st_move rfl rfl) ?_
      refine Pstep.go (st_sliceLoM (l) (k) rfl rfl rfl (rfl) (by omega) Tryz.underlying161 sz52 (fun _ => rfl) rfl) ?_
      refine Estep.go (st_appMD ((([] ++ l.take k) ++ [r])) (l.drop k) rfl rfl rfl rfl rfl rfl (fun _ => rfl) sl161 (by simp only [List.nil_append, List.length_append, List.length_singleton, List.length_take, List.length_drop]; omega) rfl rfl rfl rfl) ?_
      refine o_freezeM (emb := rscD) 48 20 ((([] ++ l.take k) ++ [r]) ++ l.drop k) rfl rfl rfl rfl rfl rfl rfl ?_
      refine Pstep.go (st_assign rfl rfl) ?_
      refine o_nil ?_
      refine a_ret ?_
      exact ⟨_, [], [], res_of rfl, rfl, rfl, by rw [insR_new hk0 hk fun x hx => by first | (exact absurd (List.getElem?_eq_some_iff.1 hx).1 (by omega)) | (rw [List.getElem?_eq_getElem hk1] at hx; injection hx with hx; subst hx; exact ⟨h19, h33⟩)]; rfl, rfl⟩
end Go.Proofs.YtnamabifclidmaaGreat

/- Layer 28: the reference's parts, touched, delta. -/
namespace Go.Proofs.YtnamabifclidmaaGreat
open Go.RowKit

theorem sum_bound {α : Type} {l : List α} {f : α → Int} {B : Int} (h : ∀ x ∈ l, -B ≤ f x ∧ f x ≤ B) (n : Nat) (hn : l.length ≤ n) (hB : 0 ≤ B) : -(n * B) ≤ (l.map f).sum ∧ (l.map f).sum ≤ n * B := by
  induction l generalizing n with
  | nil => have := Int.mul_nonneg (Int.natCast_nonneg n) hB; simp only [List.map_nil, List.sum_nil]; omega
  | cons x l ih =>
    obtain ⟨m, rfl⟩ : ∃ m, n = m + 1 := ⟨n - 1, by simp at hn; omega⟩
    have h1 := ih (fun y hy => h y (by simp [hy])) m (by simpa using hn)
    have h2 := h x (by simp)
    have e : ((m + 1 : Nat) : Int) * B = m * B + B := by rw [Int.natCast_succ, Int.add_mul, Int.one_mul]
    rw [e, List.map_cons, List.sum_cons]; omega
theorem sum_snoc {α : Type} {l : List α} {f : α → Int} {k : Nat} (hk : k < l.length) : ((l.take (k + 1)).map f).sum = ((l.take k).map f).sum + f l[k] := by
  rw [List.take_succ_eq_append_getElem hk, List.map_append, List.sum_append]; simp
theorem pd_b {i : Itm} (hb : ItmB i) (r : Rsc) (k : Nat) : -256000000000000000 ≤ ((i.po.take k).map (pd r)).sum ∧ ((i.po.take k).map (pd r)).sum ≤ 256000000000000000 := by
  have h := sum_bound (l := i.po.take k) (f := pd r) (B := Mx) (fun x hx => by
    have := hb.d x (List.mem_of_mem_take hx)
    simp only [Mx] at this
    unfold pd; split
    · simp only [Mx]; omega
    · simp only [Mx]; omega) 256 (by have := hb.po; rw [List.length_take]; omega) (by decide)
  simp only [Mx] at h; omega
theorem yd_b {i : Itm} (hb : ItmB i) (r : Rsc) (k : Nat) : -512000000000000000 ≤ ((i.pa.take k).map (yd r)).sum ∧ ((i.pa.take k).map (yd r)).sum ≤ 512000000000000000 := by
  have h := sum_bound (l := i.pa.take k) (f := yd r) (B := 2 * Mx) (fun x hx => by
    have := hb.n x (List.mem_of_mem_take hx)
    simp only [Mx] at this
    unfold yd yd1 yd2; simp only [Mx]; (repeat' split) <;> omega) 256 (by have := hb.pa; rw [List.length_take]; omega) (by decide)
  simp only [Mx] at h; omega
set_option maxRecDepth 100000 in
theorem rdelta_p (i : Itm) (r : Rsc) (hb : ItmB i) : PCalls Tryz.prog 79 [.d (itmD i), .d (rscD r)] (intD (rdelta i r)) := by
  have hpo := hb.po
  have hpa := hb.pa
  refine a_enter Tryz.func79 rfl rfl Tryz.ntmps79 rfl rfl rfl fun F hF => ?_
  refine a_seq ?_
  refine a_region ?_
  refine Estep.go (st_box 1 rfl rfl rfl rfl rfl rfl rfl) ?_
  refine Estep.go (st_box 2 rfl rfl rfl rfl rfl rfl rfl) ?_
  refine Pstep.go (st_assign rfl rfl) ?_
  refine o_nil ?_
  refine a_seq ?_
  refine a_region ?_
  refine Pstep.go (st_assign rfl rfl) ?_
  refine o_nil ?_
  refine a_seq ?_
  refine a_seq ?_
  refine a_region ?_
  refine Pstep.go (st_fieldP rfl fi52_0 rfl rfl rfl) ?_
  refine Pstep.go (st_loadP rfl rfl rfl on3 rfl) ?_
  refine Pstep.go (st_eql rfl rfl rfl) ?_
  refine o_nil ?_
  refine a_if rfl (fun h11 => ?_) (fun h11 => ?_)
  · refine a_seq ?_
    refine a_seq ?_
    refine a_region ?_
    refine Pstep.go (st_assign rfl rfl) ?_
    refine o_nil ?_
    refine a_block ?_
    refine a_loopP (α := Nat × Int) (fun q => ⟨92, [(2, (.ptr 1 0 0)), (3, (.ptr 2 0 0)), (5, (.d (intD q.2))), (6, (.d (intD (q.1 : Int))))], [(1, [.blk 80 [.d (intD i.id), .d (intD i.pr), .d (intD i.sq), .d (.sl none (i.po.map postD)), .d (.sl none (i.pa.map payD)), .d (.sl none (i.af.map intD))]]), (2, [.blk 52 [.d (intD r.k), .d (strD r.acc.o), .d (intD r.acc.k), .d (strD r.acc.a), .d (strD r.f), .d (strD r.t)]])]⟩) (fun q => q.1 ≤ i.po.length ∧ q.2 = ((i.po.take q.1).map (pd r)).sum) (fun q => i.po.length - q.1) ((0, 0)) (⟨Nat.zero_le _, rfl⟩) (lep_of hF [1, 2] rfl rfl ⟨rfl, rfl, rfl, rfl, trivial⟩) ?_
    rintro ⟨k, n⟩ ⟨hk0, hn⟩
    dsimp only at hk0 hn ⊢
    have hnb := pd_b hb r k
    refine a_seq ?_
    refine a_seq ?_
    refine a_region ?_
    refine Pstep.go (st_move rfl rfl) ?_
    refine Pstep.go (st_fieldP rfl fi80_3 rfl rfl rfl) ?_
    refine Pstep.go (st_loadP rfl rfl rfl on77 rfl) ?_
    refine Pstep.go (st_lenMap rfl Tryz.underlying77 rfl) ?_
    refine Pstep.go (st_lss rfl rfl rfl) ?_
    refine o_nil ?_
    refine a_if rfl (fun h16 => ?_) (fun h16 => ?_)
    · have hk1 : k < i.po.length := lt_cast h16
      refine a_skip ?_
      refine a_seq ?_
      refine a_block ?_
      refine a_seq ?_
      refine a_drawn [[], [0], [], [0, 1, 2], [0, 1, 2, 3], [0, 1, 2, 3, 4], [], [6], [0, 1, 2, 3, 4, 5, 6, 7]] mixed rfl ?_
      refine dws ?_
      refine d_pure [2] [] rfl rfl (fun _ => gp_none (st_fieldP rfl fi80_3 rfl rfl rfl)) ?_
      refine d_pureA [19] rfl rfl (fun _ => gp_none (st_loadP rfl rfl rfl on77 rfl)) ?_
      refine d_pure [6] [] rfl rfl (fun _ => gp_none (st_move rfl rfl)) ?_
      refine d_pure [20, 21] [] rfl rfl (fun _ => gp_none (st_indexD (k) rfl rfl (rfl) (getm hk1) Tryz.underlying77 rfl sz144 rfl)) ?_
      refine d_pure [22] [] rfl rfl (fun _ => gp_none (st_fieldFS rfl fi144_0 rfl rfl rfl)) ?_
      refine d_pure [23] [] rfl rfl (fun _ => gp_none (st_loadDS rfl rfl rw50 rfl)) ?_
      refine d_pure [3] [] rfl rfl (fun _ => gp_none (st_fieldP rfl fi52_1 rfl rfl rfl)) ?_
      refine d_pureA [25] rfl rfl (fun _ => gp_none (st_loadPS rfl rfl rw50 rfl rfl rfl)) ?_
      refine dwc 8 rfl rfl rfl ?_
      refine dw1 9 rfl rfl ?_
      refine Pstep.go (st_eqlSt (la := accC i.po[k].acc) (lb := accC r.acc) (ds := accT) (by kernel_rfl) (by kernel_rfl) (by kernel_rfl) rfl rfl rfl rfl (acc_plain _) (acc_plain _) (acc_eqC _ _) rfl) ?_
      refine o_nil ⟨rfl, ?_⟩
      refine dwe ?_
      refine a_if rfl (fun h27 => ?_) (fun h27 => ?_)
      · refine a_region ?_
        refine Pstep.go (st_move rfl rfl) ?_
        refine Pstep.go (st_fieldP rfl fi80_3 rfl rfl rfl) ?_
        refine Pstep.go (st_loadP rfl rfl rfl on77 rfl) ?_
        refine Pstep.go (st_move rfl rfl) ?_
        refine Pstep.go (st_indexD (k) rfl rfl (rfl) (getm hk1) Tryz.underlying77 rfl sz144 rfl) ?_
        refine Pstep.go (st_fieldF1 rfl fi144_1 rfl rfl rfl) ?_
        refine Pstep.go (st_loadD1 rfl rfl on2 rfl) ?_
        have hdk := hb.d _ (List.getElem_mem hk1)
        simp only [Mx] at hdk
        refine Pstep.go (st_add rfl rfl (IntWalk.i64_in _ (by omega)) rfl) ?_
        refine Pstep.go (st_assign rfl rfl) ?_
        refine o_nil ?_
        refine a_region ?_
        refine Pstep.go (st_move rfl rfl) ?_
        refine Pstep.go (st_add rfl rfl (wrapS (k + 1) (by omega)) rfl) ?_
        refine Pstep.go (st_assign rfl rfl) ?_
        refine o_nil ?_
        exact ⟨(k + 1, _), ⟨by show k + 1 ≤ _; omega, by show _ = ((i.po.take (k + 1)).map (pd r)).sum; rw [sum_snoc hk1, ← hn]; unfold pd; rw [if_pos h27]⟩, by show i.po.length - (k + 1) < i.po.length - k; omega, lep_of hF [1, 2] rfl (rfl) ⟨rfl, rfl, rfl, rfl, trivial⟩⟩
      · refine a_skip ?_
        refine a_region ?_
        refine Pstep.go (st_move rfl rfl) ?_
        refine Pstep.go (st_add rfl rfl (wrapS (k + 1) (by omega)) rfl) ?_
        refine Pstep.go (st_assign rfl rfl) ?_
        refine o_nil ?_
        exact ⟨(k + 1, _), ⟨by show k + 1 ≤ _; omega, by show _ = ((i.po.take (k + 1)).map (pd r)).sum; rw [sum_snoc hk1, ← hn]; unfold pd; rw [if_neg h27]; exact (Int.add_zero _).symm⟩, by show i.po.length - (k + 1) < i.po.length - k; omega, lep_of hF [1, 2] rfl (rfl) ⟨rfl, rfl, rfl, rfl, trivial⟩⟩
    · refine a_exit ?_
      refine a_seq ?_
      refine a_region ?_
      refine Pstep.go (st_move rfl rfl) ?_
      refine Pstep.go (st_assign rfl rfl) ?_
      refine o_nil ?_
      refine a_ret ?_
      exact ⟨_, [], [], res_of rfl, rfl, rfl, retI (by unfold rdelta; rw [if_pos h11, hn, List.take_of_length_le (by have h := h16; omega)]), rfl⟩
  · refine a_skip ?_
    refine a_seq ?_
    refine a_seq ?_
    refine a_region ?_
    refine Pstep.go (st_assign rfl rfl) ?_
    refine o_nil ?_
    refine a_block ?_
    refine a_loopP (α := Nat × Int) (fun q => ⟨92, [(2, (.ptr 1 0 0)), (3, (.ptr 2 0 0)), (5, (.d (intD q.2))), (7, (.d (intD (q.1 : Int))))], [(1, [.blk 80 [.d (intD i.id), .d (intD i.pr), .d (intD i.sq), .d (.sl none (i.po.map postD)), .d (.sl none (i.pa.map payD)), .d (.sl none (i.af.map intD))]]), (2, [.blk 52 [.d (intD r.k), .d (strD r.acc.o), .d (intD r.acc.k), .d (strD r.acc.a), .d (strD r.f), .d (strD r.t)]])]⟩) (fun q => q.1 ≤ i.pa.length ∧ q.2 = ((i.pa.take q.1).map (yd r)).sum) (fun q => i.pa.length - q.1) ((0, 0)) (⟨Nat.zero_le _, rfl⟩) (lep_of hF [1, 2] rfl rfl ⟨rfl, rfl, rfl, rfl, trivial⟩) ?_
    rintro ⟨k, n⟩ ⟨hk0, hn⟩
    dsimp only at hk0 hn ⊢
    have hnb := yd_b hb r k
    refine a_seq ?_
    refine a_seq ?_
    refine a_region ?_
    refine Pstep.go (st_move rfl rfl) ?_
    refine Pstep.go (st_fieldP rfl fi80_4 rfl rfl rfl) ?_
    refine Pstep.go (st_loadP rfl rfl rfl on78 rfl) ?_
    refine Pstep.go (st_lenMap rfl Tryz.underlying78 rfl) ?_
    refine Pstep.go (st_lss rfl rfl rfl) ?_
    refine o_nil ?_
    refine a_if rfl (fun h41 => ?_) (fun h41 => ?_)
    · have hk1 : k < i.pa.length := lt_cast h41
      refine a_skip ?_
      refine a_seq ?_
      refine a_block ?_
      refine a_seq ?_
      refine a_region ?_
      have hdk := hb.n _ (List.getElem_mem hk1)
      simp only [Mx] at hdk
      refine Pstep.go (st_fieldP rfl fi80_4 rfl rfl rfl) ?_
      refine Pstep.go (st_loadP rfl rfl rfl on78 rfl) ?_
      refine Pstep.go (st_move rfl rfl) ?_
      refine Pstep.go (st_indexD (k) rfl rfl (rfl) (getm hk1) Tryz.underlying78 rfl sz147 rfl) ?_
      refine Pstep.go (st_loadDS rfl rfl rw147 rfl) ?_
      refine Estep.go (st_alloc 3 zl147 rfl rfl rfl rfl) ?_
      refine Estep.go (st_storeP rfl rfl rfl rfl rfl rfl rfl sz147) ?_
      refine o_nil ?_
      refine a_seq ?_
      refine a_seq ?_
      refine a_region ?_
      refine Pstep.go (st_fieldP rfl fi147_0 rfl rfl rfl) ?_
      refine Pstep.go (st_loadP rfl rfl rfl on9 rfl) ?_
      refine Pstep.go (st_fieldP rfl fi52_2 rfl rfl rfl) ?_
      refine Pstep.go (st_loadP rfl rfl rfl on9 rfl) ?_
      refine Pstep.go (st_eqlSL rfl rfl rfl) ?_
      refine Pstep.go (st_move rfl rfl) ?_
      refine o_splitP 54 rfl (fun h54 => ?_) (fun h54 => ?_)
      · refine o_run rfl rfl rfl ?_
        refine Pstep.go (st_fieldP rfl fi52_0 rfl rfl rfl) ?_
        refine o_run rfl rfl rfl ?_
        refine Pstep.go (st_loadP rfl rfl rfl on3 rfl) ?_
        refine o_run rfl rfl rfl ?_
        refine Pstep.go (st_eql rfl rfl rfl) ?_
        refine o_run rfl rfl rfl ?_
        refine Pstep.go (st_move rfl rfl) ?_
        refine o_splitP 58 rfl (fun h58 => ?_) (fun h58 => ?_)
        · refine o_pass rfl rfl rfl rfl ?_
          refine o_pass rfl rfl rfl rfl ?_
          refine o_pass rfl rfl rfl rfl ?_
          refine o_pass rfl rfl rfl rfl ?_
          refine o_pass rfl rfl rfl rfl ?_
          refine o_run rfl rfl rfl ?_
          refine Pstep.go (st_pickT rfl rfl rfl rfl) ?_
          refine Pstep.go (st_pickT rfl rfl rfl rfl) ?_
          refine o_nil ?_
          refine a_true rfl rfl ?_
          refine a_region ?_
          refine Pstep.go (st_move rfl rfl) ?_
          refine Pstep.go (st_fieldP rfl fi147_2 rfl rfl rfl) ?_
          refine Pstep.go (st_loadP rfl rfl rfl on2 rfl) ?_
          refine Pstep.go (st_sub rfl rfl (IntWalk.i64_in _ (by omega)) rfl) ?_
          refine Pstep.go (st_assign rfl rfl) ?_
          refine o_nil ?_
          refine a_seq ?_
          refine a_region ?_
          refine Pstep.go (st_fieldP rfl fi147_1 rfl rfl rfl) ?_
          refine Pstep.go (st_loadP rfl rfl rfl on9 rfl) ?_
          refine Pstep.go (st_fieldP rfl fi52_2 rfl rfl rfl) ?_
          refine Pstep.go (st_loadP rfl rfl rfl on9 rfl) ?_
          refine Pstep.go (st_eqlSL rfl rfl rfl) ?_
          refine Pstep.go (st_move rfl rfl) ?_
          refine o_splitP 75 rfl (fun h75 => ?_) (fun h75 => ?_)
          · refine o_run rfl rfl rfl ?_
            refine Pstep.go (st_fieldP rfl fi52_0 rfl rfl rfl) ?_
            refine o_run rfl rfl rfl ?_
            refine Pstep.go (st_loadP rfl rfl rfl on3 rfl) ?_
            refine o_run rfl rfl rfl ?_
            refine Pstep.go (st_eql rfl rfl rfl) ?_
            refine o_run rfl rfl rfl ?_
            refine Pstep.go (st_move rfl rfl) ?_
            refine o_splitP 79 rfl (fun h79 => ?_) (fun h79 => ?_)
            · refine o_pass rfl rfl rfl rfl ?_
              refine o_pass rfl rfl rfl rfl ?_
              refine o_pass rfl rfl rfl rfl ?_
              refine o_pass rfl rfl rfl rfl ?_
              refine o_pass rfl rfl rfl rfl ?_
              refine o_run rfl rfl rfl ?_
              refine Pstep.go (st_pickT rfl rfl rfl rfl) ?_
              refine Pstep.go (st_pickT rfl rfl rfl rfl) ?_
              refine o_nil ?_
              refine a_true rfl rfl ?_
              refine a_region ?_
              refine Pstep.go (st_move rfl rfl) ?_
              refine Pstep.go (st_fieldP rfl fi147_2 rfl rfl rfl) ?_
              refine Pstep.go (st_loadP rfl rfl rfl on2 rfl) ?_
              refine Pstep.go (st_add rfl rfl (IntWalk.i64_in _ (by omega)) rfl) ?_
              refine Pstep.go (st_assign rfl rfl) ?_
              refine o_nil ?_
              refine a_region ?_
              refine Pstep.go (st_move rfl rfl) ?_
              refine Pstep.go (st_add rfl rfl (wrapS (k + 1) (by omega)) rfl) ?_
              refine Pstep.go (st_assign rfl rfl) ?_
              refine o_nil ?_
              exact ⟨(k + 1, _), ⟨by show k + 1 ≤ _; omega, by show _ = ((i.pa.take (k + 1)).map (yd r)).sum; rw [sum_snoc hk1, ← hn]; unfold yd yd1 yd2; (repeat' split) <;> first | omega | (exfalso; simp_all; done)⟩, by show i.pa.length - (k + 1) < i.pa.length - k; omega, lep_of hF [1, 2] rfl (rfl) ⟨rfl, rfl, rfl, rfl, trivial⟩⟩
            · refine o_run rfl rfl rfl ?_
              refine Pstep.go (st_fieldP rfl fi147_0 rfl rfl rfl) ?_
              refine o_run rfl rfl rfl ?_
              refine Pstep.go (st_loadP rfl rfl rfl on9 rfl) ?_
              refine o_run rfl rfl rfl ?_
              refine Pstep.go (st_fieldP rfl fi52_3 rfl rfl rfl) ?_
              refine o_run rfl rfl rfl ?_
              refine Pstep.go (st_loadP rfl rfl rfl on9 rfl) ?_
              refine o_run rfl rfl rfl ?_
              refine Pstep.go (st_eqlSL rfl rfl rfl) ?_
              refine o_run rfl rfl rfl ?_
              refine Pstep.go (st_pickF rfl rfl rfl rfl) ?_
              refine Pstep.go (st_pickT rfl rfl rfl rfl) ?_
              refine o_nil ?_
              refine a_if rfl (fun h86 => ?_) (fun h86 => ?_)
              · refine a_region ?_
                refine Pstep.go (st_move rfl rfl) ?_
                refine Pstep.go (st_fieldP rfl fi147_2 rfl rfl rfl) ?_
                refine Pstep.go (st_loadP rfl rfl rfl on2 rfl) ?_
                refine Pstep.go (st_add rfl rfl (IntWalk.i64_in _ (by omega)) rfl) ?_
                refine Pstep.go (st_assign rfl rfl) ?_
                refine o_nil ?_
                refine a_region ?_
                refine Pstep.go (st_move rfl rfl) ?_
                refine Pstep.go (st_add rfl rfl (wrapS (k + 1) (by omega)) rfl) ?_
                refine Pstep.go (st_assign rfl rfl) ?_
                refine o_nil ?_
                exact ⟨(k + 1, _), ⟨by show k + 1 ≤ _; omega, by show _ = ((i.pa.take (k + 1)).map (yd r)).sum; rw [sum_snoc hk1, ← hn]; unfold yd yd1 yd2; (repeat' split) <;> first | omega | (exfalso; simp_all; done)⟩, by show i.pa.length - (k + 1) < i.pa.length - k; omega, lep_of hF [1, 2] rfl (rfl) ⟨rfl, rfl, rfl, rfl, trivial⟩⟩
              · refine a_skip ?_
                refine a_region ?_
                refine Pstep.go (st_move rfl rfl) ?_
                refine Pstep.go (st_add rfl rfl (wrapS (k + 1) (by omega)) rfl) ?_
                refine Pstep.go (st_assign rfl rfl) ?_
                refine o_nil ?_
                exact ⟨(k + 1, _), ⟨by show k + 1 ≤ _; omega, by show _ = ((i.pa.take (k + 1)).map (yd r)).sum; rw [sum_snoc hk1, ← hn]; unfold yd yd1 yd2; (repeat' split) <;> first | omega | (exfalso; simp_all; done)⟩, by show i.pa.length - (k + 1) < i.pa.length - k; omega, lep_of hF [1, 2] rfl (rfl) ⟨rfl, rfl, rfl, rfl, trivial⟩⟩
          · refine o_pass rfl rfl rfl rfl ?_
            refine o_pass rfl rfl rfl rfl ?_
            refine o_pass rfl rfl rfl rfl ?_
            refine o_pass rfl rfl rfl rfl ?_
            refine o_passU rfl rfl rfl ?_
            refine o_passU rfl rfl rfl ?_
            refine o_passU rfl rfl rfl ?_
            refine o_passU rfl rfl rfl ?_
            refine o_passU rfl rfl rfl ?_
            refine o_pass rfl rfl rfl rfl ?_
            refine Pstep.go (st_pickF rfl rfl rfl rfl) ?_
            refine o_nil ?_
            refine a_false rfl rfl ?_
            refine a_skip ?_
            refine a_region ?_
            refine Pstep.go (st_move rfl rfl) ?_
            refine Pstep.go (st_add rfl rfl (wrapS (k + 1) (by omega)) rfl) ?_
            refine Pstep.go (st_assign rfl rfl) ?_
            refine o_nil ?_
            exact ⟨(k + 1, _), ⟨by show k + 1 ≤ _; omega, by show _ = ((i.pa.take (k + 1)).map (yd r)).sum; rw [sum_snoc hk1, ← hn]; unfold yd yd1 yd2; (repeat' split) <;> first | omega | (exfalso; simp_all; done)⟩, by show i.pa.length - (k + 1) < i.pa.length - k; omega, lep_of hF [1, 2] rfl (rfl) ⟨rfl, rfl, rfl, rfl, trivial⟩⟩
        · refine o_run rfl rfl rfl ?_
          refine Pstep.go (st_fieldP rfl fi147_1 rfl rfl rfl) ?_
          refine o_run rfl rfl rfl ?_
          refine Pstep.go (st_loadP rfl rfl rfl on9 rfl) ?_
          refine o_run rfl rfl rfl ?_
          refine Pstep.go (st_fieldP rfl fi52_3 rfl rfl rfl) ?_
          refine o_run rfl rfl rfl ?_
          refine Pstep.go (st_loadP rfl rfl rfl on9 rfl) ?_
          refine o_run rfl rfl rfl ?_
          refine Pstep.go (st_eqlSL rfl rfl rfl) ?_
          refine o_run rfl rfl rfl ?_
          refine Pstep.go (st_pickF rfl rfl rfl rfl) ?_
          refine Pstep.go (st_pickT rfl rfl rfl rfl) ?_
          refine o_nil ?_
          refine a_if rfl (fun h65 => ?_) (fun h65 => ?_)
          · refine a_region ?_
            refine Pstep.go (st_move rfl rfl) ?_
            refine Pstep.go (st_fieldP rfl fi147_2 rfl rfl rfl) ?_
            refine Pstep.go (st_loadP rfl rfl rfl on2 rfl) ?_
            refine Pstep.go (st_sub rfl rfl (IntWalk.i64_in _ (by omega)) rfl) ?_
            refine Pstep.go (st_assign rfl rfl) ?_
            refine o_nil ?_
            refine a_seq ?_
            refine a_region ?_
            refine Pstep.go (st_fieldP rfl fi147_1 rfl rfl rfl) ?_
            refine Pstep.go (st_loadP rfl rfl rfl on9 rfl) ?_
            refine Pstep.go (st_fieldP rfl fi52_2 rfl rfl rfl) ?_
            refine Pstep.go (st_loadP rfl rfl rfl on9 rfl) ?_
            refine Pstep.go (st_eqlSL rfl rfl rfl) ?_
            refine Pstep.go (st_move rfl rfl) ?_
            refine o_splitP 75 rfl (fun h75 => ?_) (fun h75 => ?_)
            · refine o_run rfl rfl rfl ?_
              refine Pstep.go (st_fieldP rfl fi52_0 rfl rfl rfl) ?_
              refine o_run rfl rfl rfl ?_
              refine Pstep.go (st_loadP rfl rfl rfl on3 rfl) ?_
              refine o_run rfl rfl rfl ?_
              refine Pstep.go (st_eql rfl rfl rfl) ?_
              refine o_run rfl rfl rfl ?_
              refine Pstep.go (st_move rfl rfl) ?_
              refine o_splitP 79 rfl (fun h79 => ?_) (fun h79 => ?_)
              · refine o_pass rfl rfl rfl rfl ?_
                refine o_pass rfl rfl rfl rfl ?_
                refine o_pass rfl rfl rfl rfl ?_
                refine o_pass rfl rfl rfl rfl ?_
                refine o_pass rfl rfl rfl rfl ?_
                refine o_run rfl rfl rfl ?_
                refine Pstep.go (st_pickT rfl rfl rfl rfl) ?_
                refine Pstep.go (st_pickT rfl rfl rfl rfl) ?_
                refine o_nil ?_
                refine a_true rfl rfl ?_
                refine a_region ?_
                refine Pstep.go (st_move rfl rfl) ?_
                refine Pstep.go (st_fieldP rfl fi147_2 rfl rfl rfl) ?_
                refine Pstep.go (st_loadP rfl rfl rfl on2 rfl) ?_
                refine Pstep.go (st_add rfl rfl (IntWalk.i64_in _ (by omega)) rfl) ?_
                refine Pstep.go (st_assign rfl rfl) ?_
                refine o_nil ?_
                refine a_region ?_
                refine Pstep.go (st_move rfl rfl) ?_
                refine Pstep.go (st_add rfl rfl (wrapS (k + 1) (by omega)) rfl) ?_
                refine Pstep.go (st_assign rfl rfl) ?_
                refine o_nil ?_
                exact ⟨(k + 1, _), ⟨by show k + 1 ≤ _; omega, by show _ = ((i.pa.take (k + 1)).map (yd r)).sum; rw [sum_snoc hk1, ← hn]; unfold yd yd1 yd2; (repeat' split) <;> first | omega | (exfalso; simp_all; done)⟩, by show i.pa.length - (k + 1) < i.pa.length - k; omega, lep_of hF [1, 2] rfl (rfl) ⟨rfl, rfl, rfl, rfl, trivial⟩⟩
              · refine o_run rfl rfl rfl ?_
                refine Pstep.go (st_fieldP rfl fi147_0 rfl rfl rfl) ?_
                refine o_run rfl rfl rfl ?_
                refine Pstep.go (st_loadP rfl rfl rfl on9 rfl) ?_
                refine o_run rfl rfl rfl ?_
                refine Pstep.go (st_fieldP rfl fi52_3 rfl rfl rfl) ?_
                refine o_run rfl rfl rfl ?_
                refine Pstep.go (st_loadP rfl rfl rfl on9 rfl) ?_
                refine o_run rfl rfl rfl ?_
                refine Pstep.go (st_eqlSL rfl rfl rfl) ?_
                refine o_run rfl rfl rfl ?_
                refine Pstep.go (st_pickF rfl rfl rfl rfl) ?_
                refine Pstep.go (st_pickT rfl rfl rfl rfl) ?_
                refine o_nil ?_
                refine a_if rfl (fun h86 => ?_) (fun h86 => ?_)
                · refine a_region ?_
                  refine Pstep.go (st_move rfl rfl) ?_
                  refine Pstep.go (st_fieldP rfl fi147_2 rfl rfl rfl) ?_
                  refine Pstep.go (st_loadP rfl rfl rfl on2 rfl) ?_
                  refine Pstep.go (st_add rfl rfl (IntWalk.i64_in _ (by omega)) rfl) ?_
                  refine Pstep.go (st_assign rfl rfl) ?_
                  refine o_nil ?_
                  refine a_region ?_
                  refine Pstep.go (st_move rfl rfl) ?_
                  refine Pstep.go (st_add rfl rfl (wrapS (k + 1) (by omega)) rfl) ?_
                  refine Pstep.go (st_assign rfl rfl) ?_
                  refine o_nil ?_
                  exact ⟨(k + 1, _), ⟨by show k + 1 ≤ _; omega, by show _ = ((i.pa.take (k + 1)).map (yd r)).sum; rw [sum_snoc hk1, ← hn]; unfold yd yd1 yd2; (repeat' split) <;> first | omega | (exfalso; simp_all; done)⟩, by show i.pa.length - (k + 1) < i.pa.length - k; omega, lep_of hF [1, 2] rfl (rfl) ⟨rfl, rfl, rfl, rfl, trivial⟩⟩
                · refine a_skip ?_
                  refine a_region ?_
                  refine Pstep.go (st_move rfl rfl) ?_
                  refine Pstep.go (st_add rfl rfl (wrapS (k + 1) (by omega)) rfl) ?_
                  refine Pstep.go (st_assign rfl rfl) ?_
                  refine o_nil ?_
                  exact ⟨(k + 1, _), ⟨by show k + 1 ≤ _; omega, by show _ = ((i.pa.take (k + 1)).map (yd r)).sum; rw [sum_snoc hk1, ← hn]; unfold yd yd1 yd2; (repeat' split) <;> first | omega | (exfalso; simp_all; done)⟩, by show i.pa.length - (k + 1) < i.pa.length - k; omega, lep_of hF [1, 2] rfl (rfl) ⟨rfl, rfl, rfl, rfl, trivial⟩⟩
            · refine o_pass rfl rfl rfl rfl ?_
              refine o_pass rfl rfl rfl rfl ?_
              refine o_pass rfl rfl rfl rfl ?_
              refine o_pass rfl rfl rfl rfl ?_
              refine o_passU rfl rfl rfl ?_
              refine o_passU rfl rfl rfl ?_
              refine o_passU rfl rfl rfl ?_
              refine o_passU rfl rfl rfl ?_
              refine o_passU rfl rfl rfl ?_
              refine o_pass rfl rfl rfl rfl ?_
              refine Pstep.go (st_pickF rfl rfl rfl rfl) ?_
              refine o_nil ?_
              refine a_false rfl rfl ?_
              refine a_skip ?_
              refine a_region ?_
              refine Pstep.go (st_move rfl rfl) ?_
              refine Pstep.go (st_add rfl rfl (wrapS (k + 1) (by omega)) rfl) ?_
              refine Pstep.go (st_assign rfl rfl) ?_
              refine o_nil ?_
              exact ⟨(k + 1, _), ⟨by show k + 1 ≤ _; omega, by show _ = ((i.pa.take (k + 1)).map (yd r)).sum; rw [sum_snoc hk1, ← hn]; unfold yd yd1 yd2; (repeat' split) <;> first | omega | (exfalso; simp_all; done)⟩, by show i.pa.length - (k + 1) < i.pa.length - k; omega, lep_of hF [1, 2] rfl (rfl) ⟨rfl, rfl, rfl, rfl, trivial⟩⟩
          · refine a_skip ?_
            refine a_seq ?_
            refine a_region ?_
            refine Pstep.go (st_fieldP rfl fi147_1 rfl rfl rfl) ?_
            refine Pstep.go (st_loadP rfl rfl rfl on9 rfl) ?_
            refine Pstep.go (st_fieldP rfl fi52_2 rfl rfl rfl) ?_
            refine Pstep.go (st_loadP rfl rfl rfl on9 rfl) ?_
            refine Pstep.go (st_eqlSL rfl rfl rfl) ?_
            refine Pstep.go (st_move rfl rfl) ?_
            refine o_splitP 75 rfl (fun h75 => ?_) (fun h75 => ?_)
            · refine o_run rfl rfl rfl ?_
              refine Pstep.go (st_fieldP rfl fi52_0 rfl rfl rfl) ?_
              refine o_run rfl rfl rfl ?_
              refine Pstep.go (st_loadP rfl rfl rfl on3 rfl) ?_
              refine o_run rfl rfl rfl ?_
              refine Pstep.go (st_eql rfl rfl rfl) ?_
              refine o_run rfl rfl rfl ?_
              refine Pstep.go (st_move rfl rfl) ?_
              refine o_splitP 79 rfl (fun h79 => ?_) (fun h79 => ?_)
              · refine o_pass rfl rfl rfl rfl ?_
                refine o_pass rfl rfl rfl rfl ?_
                refine o_pass rfl rfl rfl rfl ?_
                refine o_pass rfl rfl rfl rfl ?_
                refine o_pass rfl rfl rfl rfl ?_
                refine o_run rfl rfl rfl ?_
                refine Pstep.go (st_pickT rfl rfl rfl rfl) ?_
                refine Pstep.go (st_pickT rfl rfl rfl rfl) ?_
                refine o_nil ?_
                refine a_true rfl rfl ?_
                refine a_region ?_
                refine Pstep.go (st_move rfl rfl) ?_
                refine Pstep.go (st_fieldP rfl fi147_2 rfl rfl rfl) ?_
                refine Pstep.go (st_loadP rfl rfl rfl on2 rfl) ?_
                refine Pstep.go (st_add rfl rfl (IntWalk.i64_in _ (by omega)) rfl) ?_
                refine Pstep.go (st_assign rfl rfl) ?_
                refine o_nil ?_
                refine a_region ?_
                refine Pstep.go (st_move rfl rfl) ?_
                refine Pstep.go (st_add rfl rfl (wrapS (k + 1) (by omega)) rfl) ?_
                refine Pstep.go (st_assign rfl rfl) ?_
                refine o_nil ?_
                exact ⟨(k + 1, _), ⟨by show k + 1 ≤ _; omega, by show _ = ((i.pa.take (k + 1)).map (yd r)).sum; rw [sum_snoc hk1, ← hn]; unfold yd yd1 yd2; (repeat' split) <;> first | omega | (exfalso; simp_all; done)⟩, by show i.pa.length - (k + 1) < i.pa.length - k; omega, lep_of hF [1, 2] rfl (rfl) ⟨rfl, rfl, rfl, rfl, trivial⟩⟩
              · refine o_run rfl rfl rfl ?_
                refine Pstep.go (st_fieldP rfl fi147_0 rfl rfl rfl) ?_
                refine o_run rfl rfl rfl ?_
                refine Pstep.go (st_loadP rfl rfl rfl on9 rfl) ?_
                refine o_run rfl rfl rfl ?_
                refine Pstep.go (st_fieldP rfl fi52_3 rfl rfl rfl) ?_
                refine o_run rfl rfl rfl ?_
                refine Pstep.go (st_loadP rfl rfl rfl on9 rfl) ?_
                refine o_run rfl rfl rfl ?_
                refine Pstep.go (st_eqlSL rfl rfl rfl) ?_
                refine o_run rfl rfl rfl ?_
                refine Pstep.go (st_pickF rfl rfl rfl rfl) ?_
                refine Pstep.go (st_pickT rfl rfl rfl rfl) ?_
                refine o_nil ?_
                refine a_if rfl (fun h86 => ?_) (fun h86 => ?_)
                · refine a_region ?_
                  refine Pstep.go (st_move rfl rfl) ?_
                  refine Pstep.go (st_fieldP rfl fi147_2 rfl rfl rfl) ?_
                  refine Pstep.go (st_loadP rfl rfl rfl on2 rfl) ?_
                  refine Pstep.go (st_add rfl rfl (IntWalk.i64_in _ (by omega)) rfl) ?_
                  refine Pstep.go (st_assign rfl rfl) ?_
                  refine o_nil ?_
                  refine a_region ?_
                  refine Pstep.go (st_move rfl rfl) ?_
                  refine Pstep.go (st_add rfl rfl (wrapS (k + 1) (by omega)) rfl) ?_
                  refine Pstep.go (st_assign rfl rfl) ?_
                  refine o_nil ?_
                  exact ⟨(k + 1, _), ⟨by show k + 1 ≤ _; omega, by show _ = ((i.pa.take (k + 1)).map (yd r)).sum; rw [sum_snoc hk1, ← hn]; unfold yd yd1 yd2; (repeat' split) <;> first | omega | (exfalso; simp_all; done)⟩, by show i.pa.length - (k + 1) < i.pa.length - k; omega, lep_of hF [1, 2] rfl (rfl) ⟨rfl, rfl, rfl, rfl, trivial⟩⟩
                · refine a_skip ?_
                  refine a_region ?_
                  refine Pstep.go (st_move rfl rfl) ?_
                  refine Pstep.go (st_add rfl rfl (wrapS (k + 1) (by omega)) rfl) ?_
                  refine Pstep.go (st_assign rfl rfl) ?_
                  refine o_nil ?_
                  exact ⟨(k + 1, _), ⟨by show k + 1 ≤ _; omega, by show _ = ((i.pa.take (k + 1)).map (yd r)).sum; rw [sum_snoc hk1, ← hn]; unfold yd yd1 yd2; (repeat' split) <;> first | omega | (exfalso; simp_all; done)⟩, by show i.pa.length - (k + 1) < i.pa.length - k; omega, lep_of hF [1, 2] rfl (rfl) ⟨rfl, rfl, rfl, rfl, trivial⟩⟩
            · refine o_pass rfl rfl rfl rfl ?_
              refine o_pass rfl rfl rfl rfl ?_
              refine o_pass rfl rfl rfl rfl ?_
              refine o_pass rfl rfl rfl rfl ?_
              refine o_passU rfl rfl rfl ?_
              refine o_passU rfl rfl rfl ?_
              refine o_passU rfl rfl rfl ?_
              refine o_passU rfl rfl rfl ?_
              refine o_passU rfl rfl rfl ?_
              refine o_pass rfl rfl rfl rfl ?_
              refine Pstep.go (st_pickF rfl rfl rfl rfl) ?_
              refine o_nil ?_
              refine a_false rfl rfl ?_
              refine a_skip ?_
              refine a_region ?_
              refine Pstep.go (st_move rfl rfl) ?_
              refine Pstep.go (st_add rfl rfl (wrapS (k + 1) (by omega)) rfl) ?_
              refine Pstep.go (st_assign rfl rfl) ?_
              refine o_nil ?_
              exact ⟨(k + 1, _), ⟨by show k + 1 ≤ _; omega, by show _ = ((i.pa.take (k + 1)).map (yd r)).sum; rw [sum_snoc hk1, ← hn]; unfold yd yd1 yd2; (repeat' split) <;> first | omega | (exfalso; simp_all; done)⟩, by show i.pa.length - (k + 1) < i.pa.length - k; omega, lep_of hF [1, 2] rfl (rfl) ⟨rfl, rfl, rfl, rfl, trivial⟩⟩
      · refine o_pass rfl rfl rfl rfl ?_
        refine o_pass rfl rfl rfl rfl ?_
        refine o_pass rfl rfl rfl rfl ?_
        refine o_pass rfl rfl rfl rfl ?_
        refine o_passU rfl rfl rfl ?_
        refine o_passU rfl rfl rfl ?_
        refine o_passU rfl rfl rfl ?_
        refine o_passU rfl rfl rfl ?_
        refine o_passU rfl rfl rfl ?_
        refine o_pass rfl rfl rfl rfl ?_
        refine Pstep.go (st_pickF rfl rfl rfl rfl) ?_
        refine o_nil ?_
        refine a_false rfl rfl ?_
        refine a_skip ?_
        refine a_seq ?_
        refine a_region ?_
        refine Pstep.go (st_fieldP rfl fi147_1 rfl rfl rfl) ?_
        refine Pstep.go (st_loadP rfl rfl rfl on9 rfl) ?_
        refine Pstep.go (st_fieldP rfl fi52_2 rfl rfl rfl) ?_
        refine Pstep.go (st_loadP rfl rfl rfl on9 rfl) ?_
        refine Pstep.go (st_eqlSL rfl rfl rfl) ?_
        refine Pstep.go (st_move rfl rfl) ?_
        refine o_splitP 75 rfl (fun h75 => ?_) (fun h75 => ?_)
        · refine o_run rfl rfl rfl ?_
          refine Pstep.go (st_fieldP rfl fi52_0 rfl rfl rfl) ?_
          refine o_run rfl rfl rfl ?_
          refine Pstep.go (st_loadP rfl rfl rfl on3 rfl) ?_
          refine o_run rfl rfl rfl ?_
          refine Pstep.go (st_eql rfl rfl rfl) ?_
          refine o_run rfl rfl rfl ?_
          refine Pstep.go (st_move rfl rfl) ?_
          refine o_splitP 79 rfl (fun h79 => ?_) (fun h79 => ?_)
          · refine o_pass rfl rfl rfl rfl ?_
            refine o_pass rfl rfl rfl rfl ?_
            refine o_pass rfl rfl rfl rfl ?_
            refine o_pass rfl rfl rfl rfl ?_
            refine o_pass rfl rfl rfl rfl ?_
            refine o_run rfl rfl rfl ?_
            refine Pstep.go (st_pickT rfl rfl rfl rfl) ?_
            refine Pstep.go (st_pickT rfl rfl rfl rfl) ?_
            refine o_nil ?_
            refine a_true rfl rfl ?_
            refine a_region ?_
            refine Pstep.go (st_move rfl rfl) ?_
            refine Pstep.go (st_fieldP rfl fi147_2 rfl rfl rfl) ?_
            refine Pstep.go (st_loadP rfl rfl rfl on2 rfl) ?_
            refine Pstep.go (st_add rfl rfl (IntWalk.i64_in _ (by omega)) rfl) ?_
            refine Pstep.go (st_assign rfl rfl) ?_
            refine o_nil ?_
            refine a_region ?_
            refine Pstep.go (st_move rfl rfl) ?_
            refine Pstep.go (st_add rfl rfl (wrapS (k + 1) (by omega)) rfl) ?_
            refine Pstep.go (st_assign rfl rfl) ?_
            refine o_nil ?_
            exact ⟨(k + 1, _), ⟨by show k + 1 ≤ _; omega, by show _ = ((i.pa.take (k + 1)).map (yd r)).sum; rw [sum_snoc hk1, ← hn]; unfold yd yd1 yd2; (repeat' split) <;> first | omega | (exfalso; simp_all; done)⟩, by show i.pa.length - (k + 1) < i.pa.length - k; omega, lep_of hF [1, 2] rfl (rfl) ⟨rfl, rfl, rfl, rfl, trivial⟩⟩
          · refine o_run rfl rfl rfl ?_
            refine Pstep.go (st_fieldP rfl fi147_0 rfl rfl rfl) ?_
            refine o_run rfl rfl rfl ?_
            refine Pstep.go (st_loadP rfl rfl rfl on9 rfl) ?_
            refine o_run rfl rfl rfl ?_
            refine Pstep.go (st_fieldP rfl fi52_3 rfl rfl rfl) ?_
            refine o_run rfl rfl rfl ?_
            refine Pstep.go (st_loadP rfl rfl rfl on9 rfl) ?_
            refine o_run rfl rfl rfl ?_
            refine Pstep.go (st_eqlSL rfl rfl rfl) ?_
            refine o_run rfl rfl rfl ?_
            refine Pstep.go (st_pickF rfl rfl rfl rfl) ?_
            refine Pstep.go (st_pickT rfl rfl rfl rfl) ?_
            refine o_nil ?_
            refine a_if rfl (fun h86 => ?_) (fun h86 => ?_)
            · refine a_region ?_
              refine Pstep.go (st_move rfl rfl) ?_
              refine Pstep.go (st_fieldP rfl fi147_2 rfl rfl rfl) ?_
              refine Pstep.go (st_loadP rfl rfl rfl on2 rfl) ?_
              refine Pstep.go (st_add rfl rfl (IntWalk.i64_in _ (by omega)) rfl) ?_
              refine Pstep.go (st_assign rfl rfl) ?_
              refine o_nil ?_
              refine a_region ?_
              refine Pstep.go (st_move rfl rfl) ?_
              refine Pstep.go (st_add rfl rfl (wrapS (k + 1) (by omega)) rfl) ?_
              refine Pstep.go (st_assign rfl rfl) ?_
              refine o_nil ?_
              exact ⟨(k + 1, _), ⟨by show k + 1 ≤ _; omega, by show _ = ((i.pa.take (k + 1)).map (yd r)).sum; rw [sum_snoc hk1, ← hn]; unfold yd yd1 yd2; (repeat' split) <;> first | omega | (exfalso; simp_all; done)⟩, by show i.pa.length - (k + 1) < i.pa.length - k; omega, lep_of hF [1, 2] rfl (rfl) ⟨rfl, rfl, rfl, rfl, trivial⟩⟩
            · refine a_skip ?_
              refine a_region ?_
              refine Pstep.go (st_move rfl rfl) ?_
              refine Pstep.go (st_add rfl rfl (wrapS (k + 1) (by omega)) rfl) ?_
              refine Pstep.go (st_assign rfl rfl) ?_
              refine o_nil ?_
              exact ⟨(k + 1, _), ⟨by show k + 1 ≤ _; omega, by show _ = ((i.pa.take (k + 1)).map (yd r)).sum; rw [sum_snoc hk1, ← hn]; unfold yd yd1 yd2; (repeat' split) <;> first | omega | (exfalso; simp_all; done)⟩, by show i.pa.length - (k + 1) < i.pa.length - k; omega, lep_of hF [1, 2] rfl (rfl) ⟨rfl, rfl, rfl, rfl, trivial⟩⟩
        · refine o_pass rfl rfl rfl rfl ?_
          refine o_pass rfl rfl rfl rfl ?_
          refine o_pass rfl rfl rfl rfl ?_
          refine o_pass rfl rfl rfl rfl ?_
          refine o_passU rfl rfl rfl ?_
          refine o_passU rfl rfl rfl ?_
          refine o_passU rfl rfl rfl ?_
          refine o_passU rfl rfl rfl ?_
          refine o_passU rfl rfl rfl ?_
          refine o_pass rfl rfl rfl rfl ?_
          refine Pstep.go (st_pickF rfl rfl rfl rfl) ?_
          refine o_nil ?_
          refine a_false rfl rfl ?_
          refine a_skip ?_
          refine a_region ?_
          refine Pstep.go (st_move rfl rfl) ?_
          refine Pstep.go (st_add rfl rfl (wrapS (k + 1) (by omega)) rfl) ?_
          refine Pstep.go (st_assign rfl rfl) ?_
          refine o_nil ?_
          exact ⟨(k + 1, _), ⟨by show k + 1 ≤ _; omega, by show _ = ((i.pa.take (k + 1)).map (yd r)).sum; rw [sum_snoc hk1, ← hn]; unfold yd yd1 yd2; (repeat' split) <;> first | omega | (exfalso; simp_all; done)⟩, by show i.pa.length - (k + 1) < i.pa.length - k; omega, lep_of hF [1, 2] rfl (rfl) ⟨rfl, rfl, rfl, rfl, trivial⟩⟩
    · refine a_exit ?_
      refine a_seq ?_
      refine a_region ?_
      refine Pstep.go (st_move rfl rfl) ?_
      refine Pstep.go (st_assign rfl rfl) ?_
      refine o_nil ?_
      refine a_ret ?_
      exact ⟨_, [], [], res_of rfl, rfl, rfl, retI (by unfold rdelta; rw [if_neg h11, hn, List.take_of_length_le (by have h := h41; omega)]), rfl⟩
end Go.Proofs.YtnamabifclidmaaGreat

/- Layer 28: the reference's parts and touched. -/
namespace Go.Proofs.YtnamabifclidmaaGreat
open Go.RowKit

def partsE (i : Itm) : Int := fst0 [postE i, payE i, aftE i]
theorem partsE_post {i : Itm} {e : Int} (h : e = postE i) (h0 : e ≠ 0) : e = partsE i := by unfold partsE; simp only [fst0]; rw [if_neg (by rw [← h]; exact h0), h]
theorem partsE_pay {i : Itm} {e : Int} (hp : postE i = 0) (h : e = payE i) (h0 : e ≠ 0) : e = partsE i := by unfold partsE; simp only [fst0]; rw [if_pos hp, if_neg (by rw [← h]; exact h0), h]
theorem partsE_aft {i : Itm} {e : Int} (hp : postE i = 0) (hy : payE i = 0) (h : e = aftE i) : e = partsE i := by unfold partsE; simp only [fst0]; rw [if_pos hp, if_pos hy, h]; split <;> simp_all
set_option maxRecDepth 100000 in
theorem parts_p (i : Itm) (g1 : i.po.length ≤ 1000) (g2 : i.pa.length ≤ 1000) (g3 : i.af.length ≤ 1000) : PCalls Tryz.prog 81 [.d (itmD i)] (intD (partsE i)) := by
  refine a_enter Tryz.func81 rfl rfl Tryz.ntmps81 rfl rfl rfl fun F hF => ?_
  refine a_seq ?_
  refine a_region ?_
  refine Estep.go (st_box 1 rfl rfl rfl rfl rfl rfl rfl) ?_
  refine Pstep.go (st_assign rfl rfl) ?_
  refine o_nil ?_
  refine a_seq ?_
  refine a_seq ?_
  refine a_region ?_
  refine Pstep.go (st_assign rfl rfl) ?_
  refine o_nil ?_
  refine a_block ?_
  refine a_loopP (α := Nat) (fun k => ⟨121, [(1, (.ptr 1 0 0)), (3, (.d (intD (k : Int))))], [(1, [.blk 80 [.d (intD i.id), .d (intD i.pr), .d (intD i.sq), .d (.sl none (i.po.map postD)), .d (.sl none (i.pa.map payD)), .d (.sl none (i.af.map intD))]])]⟩) (fun k => k ≤ i.po.length ∧ postE i = fst0 ((i.po.drop k).map pErr)) (fun k => i.po.length - k) (0) (⟨Nat.zero_le _, rfl⟩) (lep_of hF [1] rfl rfl ⟨rfl, rfl, trivial⟩) ?_
  rintro k ⟨hk0, hk⟩
  refine a_seq ?_
  refine a_seq ?_
  refine a_region ?_
  refine Pstep.go (st_move rfl rfl) ?_
  refine Pstep.go (st_fieldP rfl fi80_3 rfl rfl rfl) ?_
  refine Pstep.go (st_loadP rfl rfl rfl on77 rfl) ?_
  refine Pstep.go (st_lenMap rfl Tryz.underlying77 rfl) ?_
  refine Pstep.go (st_lss rfl rfl rfl) ?_
  refine o_nil ?_
  refine a_if rfl (fun h12 => ?_) (fun h12 => ?_)
  · have hk1 : k < i.po.length := lt_cast h12
    refine a_skip ?_
    refine a_seq ?_
    refine a_block ?_
    refine a_seq ?_
    refine a_region ?_
    have hE := fst0_cases hk1 hk
    refine Pstep.go (st_fieldP rfl fi80_3 rfl rfl rfl) ?_
    refine Pstep.go (st_loadP rfl rfl rfl on77 rfl) ?_
    refine Pstep.go (st_move rfl rfl) ?_
    refine Pstep.go (st_indexD (k) rfl rfl (rfl) (getm hk1) Tryz.underlying77 rfl sz144 rfl) ?_
    refine Pstep.go (st_loadDS rfl rfl rw144 rfl) ?_
    refine Estep.go (st_alloc 2 zl144 rfl rfl rfl rfl) ?_
    refine Estep.go (st_storeP rfl rfl rfl rfl rfl rfl rfl sz144) ?_
    refine o_nil ?_
    refine a_block ?_
    refine a_seq ?_
    refine a_region ?_
    refine Pstep.go (st_fieldP rfl fi144_0 rfl rfl rfl) ?_
    refine Pstep.go (st_fieldP rfl fi50_0 rfl rfl rfl) ?_
    refine Pstep.go (st_loadP rfl rfl rfl on9 rfl) ?_
    refine Pstep.go (st_eqlSL rfl rfl rfl) ?_
    refine Pstep.go (st_move rfl rfl) ?_
    refine o_splitP 25 rfl (fun h25 => ?_) (fun h25 => ?_)
    · refine o_pass rfl rfl rfl rfl ?_
      refine o_pass rfl rfl rfl rfl ?_
      refine o_pass rfl rfl rfl rfl ?_
      refine o_pass rfl rfl rfl rfl ?_
      refine Pstep.go (st_pickT rfl rfl rfl rfl) ?_
      refine Pstep.go (st_assign rfl rfl) ?_
      refine o_nil ?_
      refine a_true rfl rfl ?_
      refine a_seq ?_
      refine a_region ?_
      refine Pstep.go (st_assign rfl rfl) ?_
      refine o_nil ?_
      refine a_ret ?_
      exact ⟨_, [], [], res_of rfl, rfl, rfl, retI (partsE_post (hE.2 6 (by unfold pErr; rw [if_pos (by simp_all)]) (by decide)) (by decide)), rfl⟩
    · refine o_run rfl rfl rfl ?_
      refine Pstep.go (st_fieldP rfl fi144_0 rfl rfl rfl) ?_
      refine o_run rfl rfl rfl ?_
      refine Pstep.go (st_fieldP rfl fi50_2 rfl rfl rfl) ?_
      refine o_run rfl rfl rfl ?_
      refine Pstep.go (st_loadP rfl rfl rfl on9 rfl) ?_
      refine o_run rfl rfl rfl ?_
      refine Pstep.go (st_eqlSL rfl rfl rfl) ?_
      refine Pstep.go (st_pickF rfl rfl rfl rfl) ?_
      refine Pstep.go (st_assign rfl rfl) ?_
      refine o_nil ?_
      refine a_if rfl (fun h20 => ?_) (fun h20 => ?_)
      · refine a_seq ?_
        refine a_region ?_
        refine Pstep.go (st_assign rfl rfl) ?_
        refine o_nil ?_
        refine a_ret ?_
        exact ⟨_, [], [], res_of rfl, rfl, rfl, retI (partsE_post (hE.2 6 (by unfold pErr; rw [if_pos (by simp_all)]) (by decide)) (by decide)), rfl⟩
      · refine a_seq ?_
        refine a_region ?_
        refine Pstep.go (st_fieldP rfl fi144_0 rfl rfl rfl) ?_
        refine Pstep.go (st_fieldP rfl fi50_1 rfl rfl rfl) ?_
        refine Pstep.go (st_loadP rfl rfl rfl on3 rfl) ?_
        refine Pstep.go (st_lss rfl rfl rfl) ?_
        refine Pstep.go (st_move rfl rfl) ?_
        refine o_splitP 36 rfl (fun h36 => ?_) (fun h36 => ?_)
        · refine o_pass rfl rfl rfl rfl ?_
          refine o_pass rfl rfl rfl rfl ?_
          refine o_pass rfl rfl rfl rfl ?_
          refine o_pass rfl rfl rfl rfl ?_
          refine Pstep.go (st_pickT rfl rfl rfl rfl) ?_
          refine Pstep.go (st_assign rfl rfl) ?_
          refine o_nil ?_
          refine a_true rfl rfl ?_
          refine a_seq ?_
          refine a_region ?_
          refine Pstep.go (st_assign rfl rfl) ?_
          refine o_nil ?_
          refine a_ret ?_
          exact ⟨_, [], [], res_of rfl, rfl, rfl, retI (partsE_post (hE.2 11 (by unfold pErr; rw [if_neg (by simp_all), if_pos (by omega)]) (by decide)) (by decide)), rfl⟩
        · refine o_run rfl rfl rfl ?_
          refine Pstep.go (st_fieldP rfl fi144_0 rfl rfl rfl) ?_
          refine o_run rfl rfl rfl ?_
          refine Pstep.go (st_fieldP rfl fi50_1 rfl rfl rfl) ?_
          refine o_run rfl rfl rfl ?_
          refine Pstep.go (st_loadP rfl rfl rfl on3 rfl) ?_
          refine o_run rfl rfl rfl ?_
          refine Pstep.go (st_gtr rfl rfl rfl) ?_
          refine Pstep.go (st_pickF rfl rfl rfl rfl) ?_
          refine Pstep.go (st_assign rfl rfl) ?_
          refine o_nil ?_
          refine a_if rfl (fun h31 => ?_) (fun h31 => ?_)
          · refine a_seq ?_
            refine a_region ?_
            refine Pstep.go (st_assign rfl rfl) ?_
            refine o_nil ?_
            refine a_ret ?_
            exact ⟨_, [], [], res_of rfl, rfl, rfl, retI (partsE_post (hE.2 11 (by unfold pErr; rw [if_neg (by simp_all), if_pos (by omega)]) (by decide)) (by decide)), rfl⟩
          · refine a_seq ?_
            refine a_region ?_
            refine Pstep.go (st_fieldP rfl fi144_1 rfl rfl rfl) ?_
            refine Pstep.go (st_loadP rfl rfl rfl on2 rfl) ?_
            refine Pstep.go (st_lss rfl rfl rfl) ?_
            refine Pstep.go (st_move rfl rfl) ?_
            refine o_splitP 46 rfl (fun h46 => ?_) (fun h46 => ?_)
            · refine o_pass rfl rfl rfl rfl ?_
              refine o_pass rfl rfl rfl rfl ?_
              refine o_pass rfl rfl rfl rfl ?_
              refine Pstep.go (st_pickT rfl rfl rfl rfl) ?_
              refine Pstep.go (st_assign rfl rfl) ?_
              refine o_nil ?_
              refine a_true rfl rfl ?_
              refine a_seq ?_
              refine a_region ?_
              refine Pstep.go (st_assign rfl rfl) ?_
              refine o_nil ?_
              refine a_ret ?_
              exact ⟨_, [], [], res_of rfl, rfl, rfl, retI (partsE_post (hE.2 12 (by unfold pErr; rw [if_neg (by simp_all), if_neg (by omega), if_pos (by simp only [Mx]; omega)]) (by decide)) (by decide)), rfl⟩
            · refine o_run rfl rfl rfl ?_
              refine Pstep.go (st_fieldP rfl fi144_1 rfl rfl rfl) ?_
              refine o_run rfl rfl rfl ?_
              refine Pstep.go (st_loadP rfl rfl rfl on2 rfl) ?_
              refine o_run rfl rfl rfl ?_
              refine Pstep.go (st_gtr rfl rfl rfl) ?_
              refine Pstep.go (st_pickF rfl rfl rfl rfl) ?_
              refine Pstep.go (st_assign rfl rfl) ?_
              refine o_nil ?_
              refine a_if rfl (fun h42 => ?_) (fun h42 => ?_)
              · refine a_seq ?_
                refine a_region ?_
                refine Pstep.go (st_assign rfl rfl) ?_
                refine o_nil ?_
                refine a_ret ?_
                exact ⟨_, [], [], res_of rfl, rfl, rfl, retI (partsE_post (hE.2 12 (by unfold pErr; rw [if_neg (by simp_all), if_neg (by omega), if_pos (by simp only [Mx]; omega)]) (by decide)) (by decide)), rfl⟩
              · refine a_skip ?_
                refine a_region ?_
                refine Pstep.go (st_move rfl rfl) ?_
                refine Pstep.go (st_add rfl rfl (wrapS (k + 1) (by omega)) rfl) ?_
                refine Pstep.go (st_assign rfl rfl) ?_
                refine o_nil ?_
                exact ⟨k + 1, ⟨by show k + 1 ≤ _; omega, hE.1 (by unfold pErr; rw [if_neg (by simp_all), if_neg (by omega), if_neg (by simp only [Mx]; omega)])⟩, by show i.po.length - (k + 1) < i.po.length - k; omega, lep_of hF [1] rfl (rfl) ⟨rfl, rfl, trivial⟩⟩
  · refine a_exit ?_
    refine a_seq ?_
    refine a_seq ?_
    have hp0 : postE i = 0 := by rw [hk, fst0_end (by have h := h12; omega)]
    refine a_region ?_
    refine Pstep.go (st_assign rfl rfl) ?_
    refine o_nil ?_
    refine a_block ?_
    refine a_loopP (α := Nat) (fun k => ⟨121, [(1, (.ptr 1 0 0)), (5, (.d (intD (k : Int))))], [(1, [.blk 80 [.d (intD i.id), .d (intD i.pr), .d (intD i.sq), .d (.sl none (i.po.map postD)), .d (.sl none (i.pa.map payD)), .d (.sl none (i.af.map intD))]])]⟩) (fun k => k ≤ i.pa.length ∧ payE i = fst0 ((i.pa.drop k).map yErr)) (fun k => i.pa.length - k) (0) (⟨Nat.zero_le _, rfl⟩) (lep_of hF [1] rfl rfl ⟨rfl, rfl, trivial⟩) ?_
    rintro k ⟨hk0, hk⟩
    refine a_seq ?_
    refine a_seq ?_
    refine a_region ?_
    refine Pstep.go (st_move rfl rfl) ?_
    refine Pstep.go (st_fieldP rfl fi80_4 rfl rfl rfl) ?_
    refine Pstep.go (st_loadP rfl rfl rfl on78 rfl) ?_
    refine Pstep.go (st_lenMap rfl Tryz.underlying78 rfl) ?_
    refine Pstep.go (st_lss rfl rfl rfl) ?_
    refine o_nil ?_
    refine a_if rfl (fun h55 => ?_) (fun h55 => ?_)
    · have hk1 : k < i.pa.length := lt_cast h55
      refine a_skip ?_
      refine a_seq ?_
      refine a_block ?_
      refine a_seq ?_
      refine a_region ?_
      have hE := fst0_cases hk1 hk
      refine Pstep.go (st_fieldP rfl fi80_4 rfl rfl rfl) ?_
      refine Pstep.go (st_loadP rfl rfl rfl on78 rfl) ?_
      refine Pstep.go (st_move rfl rfl) ?_
      refine Pstep.go (st_indexD (k) rfl rfl (rfl) (getm hk1) Tryz.underlying78 rfl sz147 rfl) ?_
      refine Pstep.go (st_loadDS rfl rfl rw147 rfl) ?_
      refine Estep.go (st_alloc 3 zl147 rfl rfl rfl rfl) ?_
      refine Estep.go (st_storeP rfl rfl rfl rfl rfl rfl rfl sz147) ?_
      refine o_nil ?_
      refine a_block ?_
      refine a_seq ?_
      refine a_region ?_
      refine Pstep.go (st_fieldP rfl fi147_0 rfl rfl rfl) ?_
      refine Pstep.go (st_loadP rfl rfl rfl on9 rfl) ?_
      refine Pstep.go (st_eqlSL rfl rfl rfl) ?_
      refine Pstep.go (st_move rfl rfl) ?_
      refine o_splitP 67 rfl (fun h67 => ?_) (fun h67 => ?_)
      · refine o_pass rfl rfl rfl rfl ?_
        refine o_pass rfl rfl rfl rfl ?_
        refine o_pass rfl rfl rfl rfl ?_
        refine Pstep.go (st_pickT rfl rfl rfl rfl) ?_
        refine Pstep.go (st_assign rfl rfl) ?_
        refine o_nil ?_
        refine a_true rfl rfl ?_
        refine a_seq ?_
        refine a_region ?_
        refine Pstep.go (st_assign rfl rfl) ?_
        refine o_nil ?_
        refine a_ret ?_
        exact ⟨_, [], [], res_of rfl, rfl, rfl, retI (partsE_pay hp0 (hE.2 6 (by unfold yErr; rw [if_pos (by simp_all)]) (by decide)) (by decide)), rfl⟩
      · refine o_run rfl rfl rfl ?_
        refine Pstep.go (st_fieldP rfl fi147_1 rfl rfl rfl) ?_
        refine o_run rfl rfl rfl ?_
        refine Pstep.go (st_loadP rfl rfl rfl on9 rfl) ?_
        refine o_run rfl rfl rfl ?_
        refine Pstep.go (st_eqlSL rfl rfl rfl) ?_
        refine Pstep.go (st_pickF rfl rfl rfl rfl) ?_
        refine Pstep.go (st_assign rfl rfl) ?_
        refine o_nil ?_
        refine a_if rfl (fun h63 => ?_) (fun h63 => ?_)
        · refine a_seq ?_
          refine a_region ?_
          refine Pstep.go (st_assign rfl rfl) ?_
          refine o_nil ?_
          refine a_ret ?_
          exact ⟨_, [], [], res_of rfl, rfl, rfl, retI (partsE_pay hp0 (hE.2 6 (by unfold yErr; rw [if_pos (by simp_all)]) (by decide)) (by decide)), rfl⟩
        · refine a_seq ?_
          refine a_region ?_
          refine Pstep.go (st_fieldP rfl fi147_0 rfl rfl rfl) ?_
          refine Pstep.go (st_loadP rfl rfl rfl on9 rfl) ?_
          refine Pstep.go (st_fieldP rfl fi147_1 rfl rfl rfl) ?_
          refine Pstep.go (st_loadP rfl rfl rfl on9 rfl) ?_
          refine Pstep.go (st_eqlSL rfl rfl rfl) ?_
          refine Pstep.go (st_assign rfl rfl) ?_
          refine o_nil ?_
          refine a_if rfl (fun h72 => ?_) (fun h72 => ?_)
          · refine a_seq ?_
            refine a_region ?_
            refine Pstep.go (st_assign rfl rfl) ?_
            refine o_nil ?_
            refine a_ret ?_
            exact ⟨_, [], [], res_of rfl, rfl, rfl, retI (partsE_pay hp0 (hE.2 7 (by unfold yErr; rw [if_neg (by simp_all), if_pos (by simp_all)]) (by decide)) (by decide)), rfl⟩
          · refine a_seq ?_
            refine a_region ?_
            refine Pstep.go (st_fieldP rfl fi147_2 rfl rfl rfl) ?_
            refine Pstep.go (st_loadP rfl rfl rfl on2 rfl) ?_
            refine Pstep.go (st_lss rfl rfl rfl) ?_
            refine Pstep.go (st_move rfl rfl) ?_
            refine o_splitP 82 rfl (fun h82 => ?_) (fun h82 => ?_)
            · refine o_pass rfl rfl rfl rfl ?_
              refine o_pass rfl rfl rfl rfl ?_
              refine o_pass rfl rfl rfl rfl ?_
              refine Pstep.go (st_pickT rfl rfl rfl rfl) ?_
              refine Pstep.go (st_assign rfl rfl) ?_
              refine o_nil ?_
              refine a_true rfl rfl ?_
              refine a_seq ?_
              refine a_region ?_
              refine Pstep.go (st_assign rfl rfl) ?_
              refine o_nil ?_
              refine a_ret ?_
              exact ⟨_, [], [], res_of rfl, rfl, rfl, retI (partsE_pay hp0 (hE.2 2 (by unfold yErr; rw [if_neg (by simp_all), if_neg (by simp_all), if_pos (by simp only [Mx]; omega)]) (by decide)) (by decide)), rfl⟩
            · refine o_run rfl rfl rfl ?_
              refine Pstep.go (st_fieldP rfl fi147_2 rfl rfl rfl) ?_
              refine o_run rfl rfl rfl ?_
              refine Pstep.go (st_loadP rfl rfl rfl on2 rfl) ?_
              refine o_run rfl rfl rfl ?_
              refine Pstep.go (st_gtr rfl rfl rfl) ?_
              refine Pstep.go (st_pickF rfl rfl rfl rfl) ?_
              refine Pstep.go (st_assign rfl rfl) ?_
              refine o_nil ?_
              refine a_if rfl (fun h78 => ?_) (fun h78 => ?_)
              · refine a_seq ?_
                refine a_region ?_
                refine Pstep.go (st_assign rfl rfl) ?_
                refine o_nil ?_
                refine a_ret ?_
                exact ⟨_, [], [], res_of rfl, rfl, rfl, retI (partsE_pay hp0 (hE.2 2 (by unfold yErr; rw [if_neg (by simp_all), if_neg (by simp_all), if_pos (by simp only [Mx]; omega)]) (by decide)) (by decide)), rfl⟩
              · refine a_skip ?_
                refine a_region ?_
                refine Pstep.go (st_move rfl rfl) ?_
                refine Pstep.go (st_add rfl rfl (wrapS (k + 1) (by omega)) rfl) ?_
                refine Pstep.go (st_assign rfl rfl) ?_
                refine o_nil ?_
                exact ⟨k + 1, ⟨by show k + 1 ≤ _; omega, hE.1 (by unfold yErr; rw [if_neg (by simp_all), if_neg (by simp_all), if_neg (by simp only [Mx]; omega)])⟩, by show i.pa.length - (k + 1) < i.pa.length - k; omega, lep_of hF [1] rfl (rfl) ⟨rfl, rfl, trivial⟩⟩
    · refine a_exit ?_
      refine a_seq ?_
      refine a_seq ?_
      have hy0 : payE i = 0 := by rw [hk, fst0_end (by have h := h55; omega)]
      refine a_region ?_
      refine Pstep.go (st_assign rfl rfl) ?_
      refine o_nil ?_
      refine a_block ?_
      refine a_loopP (α := Nat) (fun k => ⟨121, [(1, (.ptr 1 0 0)), (7, (.d (intD (k : Int))))], [(1, [.blk 80 [.d (intD i.id), .d (intD i.pr), .d (intD i.sq), .d (.sl none (i.po.map postD)), .d (.sl none (i.pa.map payD)), .d (.sl none (i.af.map intD))]])]⟩) (fun k => k ≤ i.af.length ∧ aftE i = fst0 (((List.range i.af.length).drop k).map (aErr i.id i.af))) (fun k => i.af.length - k) (0) (⟨Nat.zero_le _, rfl⟩) (lep_of hF [1] rfl rfl ⟨rfl, rfl, trivial⟩) ?_
      rintro k ⟨hk0, hk⟩
      refine a_seq ?_
      refine a_seq ?_
      refine a_region ?_
      refine Pstep.go (st_move rfl rfl) ?_
      refine Pstep.go (st_fieldP rfl fi80_5 rfl rfl rfl) ?_
      refine Pstep.go (st_loadP rfl rfl rfl on26 rfl) ?_
      refine Pstep.go (st_lenMap rfl Tryz.underlying26 rfl) ?_
      refine Pstep.go (st_lss rfl rfl rfl) ?_
      refine o_nil ?_
      refine a_if rfl (fun h91 => ?_) (fun h91 => ?_)
      · have hk1 : k < i.af.length := lt_cast h91
        refine a_skip ?_
        refine a_seq ?_
        refine a_block ?_
        refine a_seq ?_
        refine a_seq ?_
        refine a_region ?_
        have hE := range_cases hk1 hk
        have hgd : i.af.getD k 0 = i.af[k] := by rw [List.getD_eq_getElem?_getD, List.getElem?_eq_getElem hk1]; rfl
        refine Pstep.go (st_fieldP rfl fi80_5 rfl rfl rfl) ?_
        refine Pstep.go (st_loadP rfl rfl rfl on26 rfl) ?_
        refine Pstep.go (st_move rfl rfl) ?_
        refine Pstep.go (st_indexD (k) rfl rfl (rfl) (getm hk1) Tryz.underlying26 rfl sz3 rfl) ?_
        refine Pstep.go (st_loadD1 rfl rfl on3 rfl) ?_
        refine Pstep.go (st_callP (refwithin_p i.af[k]) rfl rfl) ?_
        refine Pstep.go (st_notP rfl rfl) ?_
        refine o_nil ?_
        refine a_if rfl (fun h100 => ?_) (fun h100 => ?_)
        · refine a_seq ?_
          refine a_region ?_
          refine Pstep.go (st_assign rfl rfl) ?_
          refine o_nil ?_
          refine a_ret ?_
          exact ⟨_, [], [], res_of rfl, rfl, rfl, retI (partsE_aft hp0 hy0 (hE.2 2 (by unfold aErr; rw [hgd, if_pos (by simp_all)]) (by decide))), rfl⟩
        · refine a_skip ?_
          refine a_seq ?_
          refine a_drawn [[], [0], [], [0, 1, 2], [0, 1, 2, 3], [], [5], [0, 1, 2, 3, 4, 5, 6], [0, 1, 2, 3, 4, 5, 6, 7], [0, 1, 2, 3, 4, 5, 6, 7, 8], [0, 1, 2, 3, 4, 5, 6, 7, 8, 9], [0, 1, 2, 3, 4, 5, 6, 7, 8], [0, 1, 2, 3, 4, 5, 6, 7, 8, 9, 10, 11], [0, 1, 2, 3, 4, 5, 6, 7, 8], [0, 1, 2, 3, 4, 5, 6, 7, 8, 13], [0, 1, 2, 3, 4, 5, 6, 7, 8], [0, 1, 2, 3, 4, 5, 6, 7, 8, 13, 14, 15], [0, 1, 2, 3, 4, 5, 6, 7, 8, 13, 14, 15, 16], [0, 1, 2, 3, 4, 5, 6, 7, 8, 9, 10, 11, 12, 13, 14, 15, 16, 17], [0, 1, 2, 3, 4, 5, 6, 7, 8, 9, 10, 11, 12, 13, 14, 15, 16, 17, 18]] mixed rfl ?_
          refine dws ?_
          refine d_pure [1] [] rfl rfl (fun _ => gp_none (st_fieldP rfl fi80_5 rfl rfl rfl)) ?_
          refine d_pureA [101] rfl rfl (fun _ => gp_none (st_loadP rfl rfl rfl on26 rfl)) ?_
          refine d_pure [7] [] rfl rfl (fun _ => gp_none (st_move rfl rfl)) ?_
          refine d_pure [102, 103] [] rfl rfl (fun _ => gp_none (st_indexD (k) rfl rfl (rfl) (getm hk1) Tryz.underlying26 rfl sz3 rfl)) ?_
          refine d_pure [104] [] rfl rfl (fun _ => gp_none (st_loadD1 rfl rfl on3 rfl)) ?_
          refine d_pure [1] [] rfl rfl (fun _ => gp_none (st_fieldP rfl fi80_0 rfl rfl rfl)) ?_
          refine d_pureA [106] rfl rfl (fun _ => gp_none (st_loadP rfl rfl rfl on3 rfl)) ?_
          refine dwc 7 rfl rfl rfl ?_
          refine dw1 8 rfl rfl ?_
          refine Pstep.go (st_eql rfl rfl rfl) ?_
          refine o_nil ⟨rfl, ?_⟩
          refine dw1 9 rfl rfl ?_
          refine Pstep.go (st_move rfl rfl) ?_
          refine o_splitP 109 rfl (fun h109 => ?_) (fun h109 => ?_)
          · refine o_nil ⟨rfl, ?_⟩
            refine dws ?_
            refine d_pure [1, 109] [] rfl rfl (fun _ => gp_pass rfl rfl rfl rfl) ?_
            refine d_pure [110, 109] [] rfl rfl (fun _ => gp_pass rfl rfl rfl rfl) ?_
            refine d_pure [7, 109] [] rfl rfl (fun _ => gp_pass rfl rfl rfl rfl) ?_
            refine d_pure [111, 112, 109] [] rfl rfl (fun _ => gp_pass rfl rfl rfl rfl) ?_
            refine d_pure [1, 109] [] rfl rfl (fun _ => gp_pass rfl rfl rfl rfl) ?_
            refine d_pure [114, 109] [] rfl rfl (fun _ => gp_pass rfl rfl rfl rfl) ?_
            refine d_pure [7, 109] [] rfl rfl (fun _ => gp_pass rfl rfl rfl rfl) ?_
            refine d_pure [115, 116, 109] [] rfl rfl (fun _ => gp_pass rfl rfl rfl rfl) ?_
            refine d_pure [117, 109] [] rfl rfl (fun _ => gp_pass rfl rfl rfl rfl) ?_
            refine dwc 18 rfl rfl rfl ?_
            refine dw1 19 rfl rfl ?_
            refine o_pass rfl rfl rfl rfl ?_
            refine o_nil ⟨rfl, ?_⟩
            refine dw1 20 rfl rfl ?_
            refine Pstep.go (st_pickT rfl rfl rfl rfl) ?_
            refine o_nil ⟨rfl, ?_⟩
            refine dwe ?_
            refine a_true rfl rfl ?_
            refine a_seq ?_
            refine a_region ?_
            refine Pstep.go (st_assign rfl rfl) ?_
            refine o_nil ?_
            refine a_ret ?_
            exact ⟨_, [], [], res_of rfl, rfl, rfl, retI (partsE_aft hp0 hy0 (hE.2 7 (by unfold aErr; rw [hgd, if_neg (by simp_all), if_pos (by simp_all)]) (by decide))), rfl⟩
          · refine o_nil ⟨rfl, ?_⟩
            refine dws ?_
            refine d_pure [1, 109] [] rfl rfl (fun _ => gp_run rfl rfl rfl (st_fieldP rfl fi80_5 rfl rfl rfl)) ?_
            refine d_pureA [110, 109] rfl rfl (fun _ => gp_run rfl rfl rfl (st_loadP rfl rfl rfl on26 rfl)) ?_
            refine d_pure [7, 109] [] rfl rfl (fun _ => gp_run rfl rfl rfl (st_move rfl rfl)) ?_
            refine d_pure [111, 112, 109] [] rfl rfl (fun _ => gp_run rfl rfl rfl (st_sliceHiM (i.af) (k) rfl rfl rfl (rfl) (by omega) Tryz.underlying26 sz3 (fun _ => rfl) rfl)) ?_
            refine d_pure [1, 109] [] rfl rfl (fun _ => gp_run rfl rfl rfl (st_fieldP rfl fi80_5 rfl rfl rfl)) ?_
            refine d_pureA [114, 109] rfl rfl (fun _ => gp_run rfl rfl rfl (st_loadP rfl rfl rfl on26 rfl)) ?_
            refine d_pure [7, 109] [] rfl rfl (fun _ => gp_run rfl rfl rfl (st_move rfl rfl)) ?_
            refine d_pure [115, 116, 109] [] rfl rfl (fun _ => gp_run rfl rfl rfl (st_indexD (k) rfl rfl (rfl) (getm hk1) Tryz.underlying26 rfl sz3 rfl)) ?_
            refine d_pure [117, 109] [] rfl rfl (fun _ => gp_run rfl rfl rfl (st_loadD1 rfl rfl on3 rfl)) ?_
            refine dwc 18 rfl rfl rfl ?_
            refine dw1 19 rfl rfl ?_
            refine o_run rfl rfl rfl ?_
            refine Pstep.go (st_callP (has_p (i.af.take k) i.af[k] (by rw [List.length_take]; omega)) rfl rfl) ?_
            refine o_nil ⟨rfl, ?_⟩
            refine dw1 20 rfl rfl ?_
            refine Pstep.go (st_pickF rfl rfl rfl rfl) ?_
            refine o_nil ⟨rfl, ?_⟩
            refine dwe ?_
            refine a_if rfl (fun h120 => ?_) (fun h120 => ?_)
            · refine a_seq ?_
              refine a_region ?_
              refine Pstep.go (st_assign rfl rfl) ?_
              refine o_nil ?_
              refine a_ret ?_
              exact ⟨_, [], [], res_of rfl, rfl, rfl, retI (partsE_aft hp0 hy0 (hE.2 7 (by unfold aErr; rw [hgd, if_neg (by simp_all), if_pos (by simp_all)]) (by decide))), rfl⟩
            · refine a_skip ?_
              refine a_region ?_
              refine Pstep.go (st_move rfl rfl) ?_
              refine Pstep.go (st_add rfl rfl (wrapS (k + 1) (by omega)) rfl) ?_
              refine Pstep.go (st_assign rfl rfl) ?_
              refine o_nil ?_
              exact ⟨k + 1, ⟨by show k + 1 ≤ _; omega, hE.1 (by unfold aErr; rw [hgd, if_neg (by simp_all), if_neg (by simp_all)])⟩, by show i.af.length - (k + 1) < i.af.length - k; omega, lep_of hF [1] rfl (rfl) ⟨rfl, rfl, trivial⟩⟩
      · refine a_exit ?_
        refine a_seq ?_
        refine a_region ?_
        refine Pstep.go (st_assign rfl rfl) ?_
        refine o_nil ?_
        refine a_ret ?_
        exact ⟨_, [], [], res_of rfl, rfl, rfl, retI (partsE_aft hp0 hy0 (by rw [hk, List.drop_of_length_le (by have h := h91; simp only [List.length_range]; omega)]; rfl)), rfl⟩
end Go.Proofs.YtnamabifclidmaaGreat

/- Layer 28: the reference's touched resources and check. -/
namespace Go.Proofs.YtnamabifclidmaaGreat
open Go.RowKit

theorem touL4 (c : List (Rsc × Int)) (p : Pay) : touL (c ++ ctr1 p) = insR (insR (insR (insR (touL c) (rBil p.f p.t)) (rBil p.t p.f)) (rMul p.f)) (rMul p.t) := by
  have e : c ++ ctr1 p = (((c ++ [(rBil p.f p.t, -p.n)]) ++ [(rBil p.t p.f, p.n)]) ++ [(rMul p.f, -p.n)]) ++ [(rMul p.t, p.n)] := by simp [ctr1]
  rw [e, touL_snoc, touL_snoc, touL_snoc, touL_snoc]
theorem touLP {l : List Post} {k : Nat} (hk : k < l.length) : touL (ctrP (l.take (k + 1))) = insR (touL (ctrP (l.take k))) (rPost l[k]) := by rw [ctrP_snoc hk, touL_snoc]
theorem touLY {c : List (Rsc × Int)} {l : List Pay} {k : Nat} (hk : k < l.length) : touL (c ++ ctrY (l.take (k + 1))) = insR (insR (insR (insR (touL (c ++ ctrY (l.take k))) (rBil l[k].f l[k].t)) (rBil l[k].t l[k].f)) (rMul l[k].f)) (rMul l[k].t) := by rw [ctrY_snoc hk, ← List.append_assoc, touL4]
set_option maxRecDepth 100000 in
theorem touched_p (i : Itm) (g1 : i.po.length ≤ 1000) (g2 : i.pa.length ≤ 1000) : PCalls Tryz.prog 82 [.d (itmD i)] (.sl none ((touL (ctr i)).map rscD)) := by
  refine a_enter Tryz.func82 rfl rfl Tryz.ntmps82 rfl rfl rfl fun F hF => ?_
  refine a_seq ?_
  refine a_region ?_
  refine Estep.go (st_box 1 rfl rfl rfl rfl rfl rfl rfl) ?_
  refine Pstep.go (st_assign rfl rfl) ?_
  refine o_nil ?_
  refine a_seq ?_
  refine a_region ?_
  refine Pstep.go (st_assign rfl rfl) ?_
  refine o_nil ?_
  refine a_seq ?_
  refine a_seq ?_
  refine a_anyNil 3 rfl ?_
  refine a_region ?_
  refine Pstep.go (st_assign rfl rfl) ?_
  refine o_nil ?_
  refine a_block ?_
  refine a_loopP (α := Nat × List Rsc) (fun q => ⟨60, [(1, (.ptr 1 0 0)), (3, (.d (.sl none (q.2.map rscD)))), (4, (.d (intD (q.1 : Int))))], [(1, [.blk 80 [.d (intD i.id), .d (intD i.pr), .d (intD i.sq), .d (.sl none (i.po.map postD)), .d (.sl none (i.pa.map payD)), .d (.sl none (i.af.map intD))]])]⟩) (fun q => q.1 ≤ i.po.length ∧ q.2 = touL (ctrP (i.po.take q.1))) (fun q => i.po.length - q.1) ((0, [])) (⟨Nat.zero_le _, rfl⟩) (lep_of hF [1] rfl rfl ⟨rfl, rfl, rfl, trivial⟩) ?_
  rintro ⟨k, L⟩ ⟨hk0, hL⟩
  dsimp only at hk0 hL ⊢
  refine a_seq ?_
  refine a_seq ?_
  refine a_region ?_
  refine Pstep.go (st_move rfl rfl) ?_
  refine Pstep.go (st_fieldP rfl fi80_3 rfl rfl rfl) ?_
  refine Pstep.go (st_loadP rfl rfl rfl on77 rfl) ?_
  refine Pstep.go (st_lenMap rfl Tryz.underlying77 rfl) ?_
  refine Pstep.go (st_lss rfl rfl rfl) ?_
  refine o_nil ?_
  refine a_if rfl (fun h11 => ?_) (fun h11 => ?_)
  · have hk1 : k < i.po.length := lt_cast h11
    refine a_skip ?_
    refine a_seq ?_
    refine a_block ?_
    refine a_region ?_
    have hlen : L.length ≤ 1000 := by rw [hL]; have := touL_len (ctrP (i.po.take k)); simp only [ctrP, List.length_map, List.length_take] at this; simp only [ctrP]; omega
    refine Pstep.go (st_move rfl rfl) ?_
    refine Pstep.go (st_fieldP rfl fi80_3 rfl rfl rfl) ?_
    refine Pstep.go (st_loadP rfl rfl rfl on77 rfl) ?_
    refine Pstep.go (st_move rfl rfl) ?_
    refine Pstep.go (st_indexD (k) rfl rfl (rfl) (getm hk1) Tryz.underlying77 rfl sz144 rfl) ?_
    refine Pstep.go (st_fieldFS rfl fi144_0 rfl rfl rfl) ?_
    refine Pstep.go (st_loadDS rfl rfl rw50 rfl) ?_
    refine Pstep.go (st_build zl52 pl52 rfl rfl rfl) ?_
    refine Pstep.go (st_callP (insert_p L (rPost i.po[k]) (by omega)) rfl rfl) ?_
    refine Pstep.go (st_assign rfl rfl) ?_
    refine o_nil ?_
    refine a_region ?_
    refine Pstep.go (st_move rfl rfl) ?_
    refine Pstep.go (st_add rfl rfl (wrapS (k + 1) (by omega)) rfl) ?_
    refine Pstep.go (st_assign rfl rfl) ?_
    refine o_nil ?_
    exact ⟨(k + 1, _), ⟨by show k + 1 ≤ _; omega, by show _ = touL (ctrP (i.po.take (k + 1))); rw [touLP hk1, ← hL]⟩, by show i.po.length - (k + 1) < i.po.length - k; omega, lep_of hF [1] rfl (rfl) ⟨rfl, rfl, rfl, trivial⟩⟩
  · refine a_exit ?_
    refine a_seq ?_
    refine a_seq ?_
    have hL0 : L = touL (ctrP i.po ++ ctrY (i.pa.take 0)) := by rw [hL, List.take_of_length_le (by have h := h11; omega)]; simp [ctrY]
    refine a_region ?_
    refine Pstep.go (st_assign rfl rfl) ?_
    refine o_nil ?_
    refine a_block ?_
    refine a_loopP (α := Nat × List Rsc) (fun q => ⟨60, [(1, (.ptr 1 0 0)), (3, (.d (.sl none (q.2.map rscD)))), (5, (.d (intD (q.1 : Int))))], [(1, [.blk 80 [.d (intD i.id), .d (intD i.pr), .d (intD i.sq), .d (.sl none (i.po.map postD)), .d (.sl none (i.pa.map payD)), .d (.sl none (i.af.map intD))]])]⟩) (fun q => q.1 ≤ i.pa.length ∧ q.2 = touL (ctrP i.po ++ ctrY (i.pa.take q.1))) (fun q => i.pa.length - q.1) ((0, L)) (⟨Nat.zero_le _, hL0⟩) (lep_of hF [1] rfl rfl ⟨rfl, rfl, rfl, trivial⟩) ?_
    rintro ⟨m, N⟩ ⟨hm0, hN⟩
    dsimp only at hm0 hN ⊢
    refine a_seq ?_
    refine a_seq ?_
    refine a_region ?_
    refine Pstep.go (st_move rfl rfl) ?_
    refine Pstep.go (st_fieldP rfl fi80_4 rfl rfl rfl) ?_
    refine Pstep.go (st_loadP rfl rfl rfl on78 rfl) ?_
    refine Pstep.go (st_lenMap rfl Tryz.underlying78 rfl) ?_
    refine Pstep.go (st_lss rfl rfl rfl) ?_
    refine o_nil ?_
    refine a_if rfl (fun h27 => ?_) (fun h27 => ?_)
    · have hm1 : m < i.pa.length := lt_cast h27
      refine a_skip ?_
      refine a_seq ?_
      refine a_block ?_
      refine a_seq ?_
      refine a_region ?_
      have hlen : N.length ≤ 5000 := by rw [hN]; have := touL_len (ctrP i.po ++ ctrY (i.pa.take m)); rw [List.length_append, ctrY_length] at this; simp only [ctrP, List.length_map, List.length_take] at this ⊢; omega
      have hl1 := insR_len N (rBil i.pa[m].f i.pa[m].t)
      have hl2 := insR_len (insR N (rBil i.pa[m].f i.pa[m].t)) (rBil i.pa[m].t i.pa[m].f)
      have hl3 := insR_len (insR (insR N (rBil i.pa[m].f i.pa[m].t)) (rBil i.pa[m].t i.pa[m].f)) (rMul i.pa[m].f)
      refine Pstep.go (st_fieldP rfl fi80_4 rfl rfl rfl) ?_
      refine Pstep.go (st_loadP rfl rfl rfl on78 rfl) ?_
      refine Pstep.go (st_move rfl rfl) ?_
      refine Pstep.go (st_indexD (m) rfl rfl (rfl) (getm hm1) Tryz.underlying78 rfl sz147 rfl) ?_
      refine Pstep.go (st_loadDS rfl rfl rw147 rfl) ?_
      refine Estep.go (st_alloc 2 zl147 rfl rfl rfl rfl) ?_
      refine Estep.go (st_storeP rfl rfl rfl rfl rfl rfl rfl sz147) ?_
      refine o_nil ?_
      refine a_seq ?_
      refine a_region ?_
      refine Pstep.go (st_move rfl rfl) ?_
      refine Pstep.go (st_fieldP rfl fi147_0 rfl rfl rfl) ?_
      refine Pstep.go (st_loadP rfl rfl rfl on9 rfl) ?_
      refine Pstep.go (st_fieldP rfl fi147_1 rfl rfl rfl) ?_
      refine Pstep.go (st_loadP rfl rfl rfl on9 rfl) ?_
      refine Pstep.go (st_build zl52 pl52 rfl rfl rfl) ?_
      refine Pstep.go (st_callP (insert_p N (rBil i.pa[m].f i.pa[m].t) (by omega)) rfl rfl) ?_
      refine Pstep.go (st_assign rfl rfl) ?_
      refine o_nil ?_
      refine a_seq ?_
      refine a_region ?_
      refine Pstep.go (st_move rfl rfl) ?_
      refine Pstep.go (st_fieldP rfl fi147_1 rfl rfl rfl) ?_
      refine Pstep.go (st_loadP rfl rfl rfl on9 rfl) ?_
      refine Pstep.go (st_fieldP rfl fi147_0 rfl rfl rfl) ?_
      refine Pstep.go (st_loadP rfl rfl rfl on9 rfl) ?_
      refine Pstep.go (st_build zl52 pl52 rfl rfl rfl) ?_
      refine Pstep.go (st_callP (insert_p (insR N (rBil i.pa[m].f i.pa[m].t)) (rBil i.pa[m].t i.pa[m].f) (by omega)) rfl rfl) ?_
      refine Pstep.go (st_assign rfl rfl) ?_
      refine o_nil ?_
      refine a_seq ?_
      refine a_region ?_
      refine Pstep.go (st_move rfl rfl) ?_
      refine Pstep.go (st_fieldP rfl fi147_0 rfl rfl rfl) ?_
      refine Pstep.go (st_loadP rfl rfl rfl on9 rfl) ?_
      refine Pstep.go (st_build zl52 pl52 rfl rfl rfl) ?_
      refine Pstep.go (st_callP (insert_p (insR (insR N (rBil i.pa[m].f i.pa[m].t)) (rBil i.pa[m].t i.pa[m].f)) (rMul i.pa[m].f) (by omega)) rfl rfl) ?_
      refine Pstep.go (st_assign rfl rfl) ?_
      refine o_nil ?_
      refine a_region ?_
      refine Pstep.go (st_move rfl rfl) ?_
      refine Pstep.go (st_fieldP rfl fi147_1 rfl rfl rfl) ?_
      refine Pstep.go (st_loadP rfl rfl rfl on9 rfl) ?_
      refine Pstep.go (st_build zl52 pl52 rfl rfl rfl) ?_
      refine Pstep.go (st_callP (insert_p (insR (insR (insR N (rBil i.pa[m].f i.pa[m].t)) (rBil i.pa[m].t i.pa[m].f)) (rMul i.pa[m].f)) (rMul i.pa[m].t) (by omega)) rfl rfl) ?_
      refine Pstep.go (st_assign rfl rfl) ?_
      refine o_nil ?_
      refine a_region ?_
      refine Pstep.go (st_move rfl rfl) ?_
      refine Pstep.go (st_add rfl rfl (wrapS (m + 1) (by omega)) rfl) ?_
      refine Pstep.go (st_assign rfl rfl) ?_
      refine o_nil ?_
      exact ⟨(m + 1, _), ⟨by show m + 1 ≤ _; omega, by show _ = touL (ctrP i.po ++ ctrY (i.pa.take (m + 1))); rw [touLY hm1, ← hN]⟩, by show i.pa.length - (m + 1) < i.pa.length - m; omega, lep_of hF [1] rfl (rfl) ⟨rfl, rfl, rfl, trivial⟩⟩
    · refine a_exit ?_
      refine a_seq ?_
      refine a_region ?_
      refine Pstep.go (st_move rfl rfl) ?_
      refine Pstep.go (st_assign rfl rfl) ?_
      refine o_nil ?_
      refine a_ret ?_
      exact ⟨_, [], [], res_of rfl, rfl, rfl, by rw [hN, List.take_of_length_le (by have h := h27; omega)] <;> rfl, rfl⟩
end Go.Proofs.YtnamabifclidmaaGreat

/- Layer 28: the reference's check of an item. -/
namespace Go.Proofs.YtnamabifclidmaaGreat
open Go.RowKit

theorem partsE_zero {i : Itm} (h : partsE i = 0) : postE i = 0 ∧ payE i = 0 ∧ aftE i = 0 := by
  have h3 := fst0_all h
  exact ⟨h3 _ (by simp), h3 _ (by simp), h3 _ (by simp)⟩
theorem checkE_2 {i : Itm} (h : ¬ (0 ≤ i.id ∧ i.id ≤ 1000000000) ∨ ¬ (0 ≤ i.sq ∧ i.sq ≤ 1000000000) ∨ ¬ (0 ≤ i.pr ∧ i.pr ≤ 2)) : checkE i = 2 := if_pos h
theorem checkE_8 {i : Itm} (h : ¬ (¬ (0 ≤ i.id ∧ i.id ≤ 1000000000) ∨ ¬ (0 ≤ i.sq ∧ i.sq ≤ 1000000000) ∨ ¬ (0 ≤ i.pr ∧ i.pr ≤ 2))) (h2 : 256 < i.po.length ∨ 256 < i.pa.length ∨ 256 < i.af.length) : checkE i = 8 := by unfold checkE; rw [if_neg h, if_pos h2]
theorem checkE_p {i : Itm} (h : ¬ (¬ (0 ≤ i.id ∧ i.id ≤ 1000000000) ∨ ¬ (0 ≤ i.sq ∧ i.sq ≤ 1000000000) ∨ ¬ (0 ≤ i.pr ∧ i.pr ≤ 2))) (h2 : ¬ (256 < i.po.length ∨ 256 < i.pa.length ∨ 256 < i.af.length)) : checkE i = if partsE i = 0 then fst0 [balE i, bndE i] else partsE i := by
  unfold checkE; rw [if_neg h, if_neg h2]
  simp only [fns, partsE, List.map_cons, List.map_nil, fst0]
  by_cases h1 : postE i = 0 <;> by_cases h2 : payE i = 0 <;> by_cases h3 : aftE i = 0 <;> simp [h1, h2, h3]
theorem tou_valid {i : Itm} (h1 : postE i = 0) (h2 : payE i = 0) {r : Rsc} (hr : r ∈ touL (ctr i)) : validE r = 0 := by
  obtain ⟨x, hx, rfl⟩ := List.mem_map.1 ((touL_mem _ _).1 hr)
  rcases List.mem_append.1 hx with hx | hx
  · obtain ⟨p, hp, rfl⟩ := List.mem_map.1 hx
    have := fst0_zero.1 h1 p hp
    unfold pErr at this
    split at this; · cases this
    split at this; · cases this
    rename_i a1 a2
    unfold validE
    rw [if_pos rfl, if_pos]
    exact ⟨fun e => a1 (.inl e), fun e => a1 (.inr e), by show 0 ≤ p.acc.k; omega, by show p.acc.k < 5; omega, rfl, rfl⟩
  · obtain ⟨p, hp, hx⟩ := List.mem_flatMap.1 hx
    have := fst0_zero.1 h2 p hp
    unfold yErr at this
    split at this; · cases this
    split at this; · cases this
    rename_i a1 a2
    have b1 : p.f ≠ [] := fun e => a1 (.inl e)
    have b2 : p.t ≠ [] := fun e => a1 (.inr e)
    simp only [ctr1, List.mem_cons, List.not_mem_nil, or_false] at hx
    rcases hx with rfl | rfl | rfl | rfl
    · simp [validE, b1, b2, a2]
    · simp [validE, b1, b2]; exact fun e => a2 e.symm
    · simp [validE, b1]
    · simp [validE, b2]
theorem bnd_tou {i : Itm} (h : ∀ r ∈ touL (ctr i), -Mx ≤ ctrSum (ctr i) r ∧ ctrSum (ctr i) r ≤ Mx) : (0 : Int) = bndE i :=
  bnd_ok fun x hx => by
    obtain ⟨r, b⟩ := x
    obtain ⟨h1, h2⟩ := (sumL_mem _ _ _).1 hx
    have := h r ((touL_mem _ _).2 h1)
    rw [← h2] at this; exact this
theorem bnd_tou_bad {i : Itm} {r : Rsc} (hr : r ∈ touL (ctr i)) (h : ¬ (-Mx ≤ ctrSum (ctr i) r ∧ ctrSum (ctr i) r ≤ Mx)) : (12 : Int) = bndE i := by
  unfold bndE; rw [if_pos]
  exact ⟨(r, ctrSum (ctr i) r), (sumL_mem _ _ _).2 ⟨(touL_mem _ _).1 hr, rfl⟩, h⟩
theorem bal_bad2 {i : Itm} {k : Nat} (hk : k < i.po.length) (h : assetSum i.po i.po[k].acc.a ≠ 0) : (14 : Int) = balE i := by
  unfold balE; rw [if_pos ⟨_, List.getElem_mem hk, h⟩]
theorem bal_ok2 {i : Itm} (h : ∀ p ∈ i.po, assetSum i.po p.acc.a = 0) : balE i = 0 := by
  unfold balE; rw [if_neg]; rintro ⟨p, hp, hn⟩; exact hn (h p hp)
set_option maxRecDepth 100000 in
theorem refcheck_p (i : Itm) (g1 : i.po.length ≤ 1000) (g2 : i.pa.length ≤ 1000) (g3 : i.af.length ≤ 1000) : PCalls Tryz.prog 54 [.d (itmD i)] (intD (checkE i)) := by
  refine a_enter Tryz.func54 rfl rfl Tryz.ntmps54 rfl rfl rfl fun F hF => ?_
  refine a_seq ?_
  refine a_region ?_
  refine Estep.go (st_box 1 rfl rfl rfl rfl rfl rfl rfl) ?_
  refine Pstep.go (st_assign rfl rfl) ?_
  refine o_nil ?_
  refine a_seq ?_
  refine a_seq ?_
  refine a_region ?_
  refine Pstep.go (st_fieldP rfl fi80_0 rfl rfl rfl) ?_
  refine Pstep.go (st_loadP rfl rfl rfl on3 rfl) ?_
  refine Pstep.go (st_callP (refwithin_p i.id) rfl rfl) ?_
  refine Pstep.go (st_notP rfl rfl) ?_
  refine Pstep.go (st_move rfl rfl) ?_
  refine o_splitP 14 rfl (fun h14 => ?_) (fun h14 => ?_)
  · refine o_pass rfl rfl rfl rfl ?_
    refine o_pass rfl rfl rfl rfl ?_
    refine o_pass rfl rfl rfl rfl ?_
    refine o_pass rfl rfl rfl rfl ?_
    refine Pstep.go (st_pickT rfl rfl rfl rfl) ?_
    refine Pstep.go (st_move rfl rfl) ?_
    refine o_pass rfl rfl rfl rfl ?_
    refine o_pass rfl rfl rfl rfl ?_
    refine o_pass rfl rfl rfl rfl ?_
    refine Pstep.go (st_pickT rfl rfl rfl rfl) ?_
    refine Pstep.go (st_move rfl rfl) ?_
    refine o_pass rfl rfl rfl rfl ?_
    refine o_pass rfl rfl rfl rfl ?_
    refine o_pass rfl rfl rfl rfl ?_
    refine Pstep.go (st_pickT rfl rfl rfl rfl) ?_
    refine o_nil ?_
    refine a_true rfl rfl ?_
    refine a_seq ?_
    refine a_region ?_
    refine Pstep.go (st_assign rfl rfl) ?_
    refine o_nil ?_
    refine a_ret ?_
    exact ⟨_, [], [], res_of rfl, rfl, rfl, retI (checkE_2 (by omega)).symm, rfl⟩
  · refine o_run rfl rfl rfl ?_
    refine Pstep.go (st_fieldP rfl fi80_2 rfl rfl rfl) ?_
    refine o_run rfl rfl rfl ?_
    refine Pstep.go (st_loadP rfl rfl rfl on3 rfl) ?_
    refine o_run rfl rfl rfl ?_
    refine Pstep.go (st_callP (refwithin_p i.sq) rfl rfl) ?_
    refine o_run rfl rfl rfl ?_
    refine Pstep.go (st_notP rfl rfl) ?_
    refine Pstep.go (st_pickF rfl rfl rfl rfl) ?_
    refine Pstep.go (st_move rfl rfl) ?_
    refine o_splitP 20 rfl (fun h20 => ?_) (fun h20 => ?_)
    · refine o_pass rfl rfl rfl rfl ?_
      refine o_pass rfl rfl rfl rfl ?_
      refine o_pass rfl rfl rfl rfl ?_
      refine Pstep.go (st_pickT rfl rfl rfl rfl) ?_
      refine Pstep.go (st_move rfl rfl) ?_
      refine o_pass rfl rfl rfl rfl ?_
      refine o_pass rfl rfl rfl rfl ?_
      refine o_pass rfl rfl rfl rfl ?_
      refine Pstep.go (st_pickT rfl rfl rfl rfl) ?_
      refine o_nil ?_
      refine a_true rfl rfl ?_
      refine a_seq ?_
      refine a_region ?_
      refine Pstep.go (st_assign rfl rfl) ?_
      refine o_nil ?_
      refine a_ret ?_
      exact ⟨_, [], [], res_of rfl, rfl, rfl, retI (checkE_2 (by omega)).symm, rfl⟩
    · refine o_run rfl rfl rfl ?_
      refine Pstep.go (st_fieldP rfl fi80_1 rfl rfl rfl) ?_
      refine o_run rfl rfl rfl ?_
      refine Pstep.go (st_loadP rfl rfl rfl on3 rfl) ?_
      refine o_run rfl rfl rfl ?_
      refine Pstep.go (st_lss rfl rfl rfl) ?_
      refine Pstep.go (st_pickF rfl rfl rfl rfl) ?_
      refine Pstep.go (st_move rfl rfl) ?_
      refine o_splitP 25 rfl (fun h25 => ?_) (fun h25 => ?_)
      · refine o_pass rfl rfl rfl rfl ?_
        refine o_pass rfl rfl rfl rfl ?_
        refine o_pass rfl rfl rfl rfl ?_
        refine Pstep.go (st_pickT rfl rfl rfl rfl) ?_
        refine o_nil ?_
        refine a_true rfl rfl ?_
        refine a_seq ?_
        refine a_region ?_
        refine Pstep.go (st_assign rfl rfl) ?_
        refine o_nil ?_
        refine a_ret ?_
        exact ⟨_, [], [], res_of rfl, rfl, rfl, retI (checkE_2 (by omega)).symm, rfl⟩
      · refine o_run rfl rfl rfl ?_
        refine Pstep.go (st_fieldP rfl fi80_1 rfl rfl rfl) ?_
        refine o_run rfl rfl rfl ?_
        refine Pstep.go (st_loadP rfl rfl rfl on3 rfl) ?_
        refine o_run rfl rfl rfl ?_
        refine Pstep.go (st_gtr rfl rfl rfl) ?_
        refine Pstep.go (st_pickF rfl rfl rfl rfl) ?_
        refine o_nil ?_
        refine a_if rfl (fun h29 => ?_) (fun h29 => ?_)
        · refine a_seq ?_
          refine a_region ?_
          refine Pstep.go (st_assign rfl rfl) ?_
          refine o_nil ?_
          refine a_ret ?_
          exact ⟨_, [], [], res_of rfl, rfl, rfl, retI (checkE_2 (by omega)).symm, rfl⟩
        · refine a_skip ?_
          refine a_seq ?_
          refine a_seq ?_
          refine a_region ?_
          refine Pstep.go (st_fieldP rfl fi80_3 rfl rfl rfl) ?_
          refine Pstep.go (st_loadP rfl rfl rfl on77 rfl) ?_
          refine Pstep.go (st_lenMap rfl Tryz.underlying77 rfl) ?_
          refine Pstep.go (st_gtr rfl rfl rfl) ?_
          refine Pstep.go (st_move rfl rfl) ?_
          refine o_splitP 34 rfl (fun h34 => ?_) (fun h34 => ?_)
          · refine o_pass rfl rfl rfl rfl ?_
            refine o_pass rfl rfl rfl rfl ?_
            refine o_pass rfl rfl rfl rfl ?_
            refine o_pass rfl rfl rfl rfl ?_
            refine Pstep.go (st_pickT rfl rfl rfl rfl) ?_
            refine Pstep.go (st_move rfl rfl) ?_
            refine o_pass rfl rfl rfl rfl ?_
            refine o_pass rfl rfl rfl rfl ?_
            refine o_pass rfl rfl rfl rfl ?_
            refine o_pass rfl rfl rfl rfl ?_
            refine Pstep.go (st_pickT rfl rfl rfl rfl) ?_
            refine o_nil ?_
            refine a_true rfl rfl ?_
            refine a_seq ?_
            refine a_region ?_
            refine Pstep.go (st_assign rfl rfl) ?_
            refine o_nil ?_
            refine a_ret ?_
            exact ⟨_, [], [], res_of rfl, rfl, rfl, retI (checkE_8 (by omega) (by omega)).symm, rfl⟩
          · refine o_run rfl rfl rfl ?_
            refine Pstep.go (st_fieldP rfl fi80_4 rfl rfl rfl) ?_
            refine o_run rfl rfl rfl ?_
            refine Pstep.go (st_loadP rfl rfl rfl on78 rfl) ?_
            refine o_run rfl rfl rfl ?_
            refine Pstep.go (st_lenMap rfl Tryz.underlying78 rfl) ?_
            refine o_run rfl rfl rfl ?_
            refine Pstep.go (st_gtr rfl rfl rfl) ?_
            refine Pstep.go (st_pickF rfl rfl rfl rfl) ?_
            refine Pstep.go (st_move rfl rfl) ?_
            refine o_splitP 40 rfl (fun h40 => ?_) (fun h40 => ?_)
            · refine o_pass rfl rfl rfl rfl ?_
              refine o_pass rfl rfl rfl rfl ?_
              refine o_pass rfl rfl rfl rfl ?_
              refine o_pass rfl rfl rfl rfl ?_
              refine Pstep.go (st_pickT rfl rfl rfl rfl) ?_
              refine o_nil ?_
              refine a_true rfl rfl ?_
              refine a_seq ?_
              refine a_region ?_
              refine Pstep.go (st_assign rfl rfl) ?_
              refine o_nil ?_
              refine a_ret ?_
              exact ⟨_, [], [], res_of rfl, rfl, rfl, retI (checkE_8 (by omega) (by omega)).symm, rfl⟩
            · refine o_run rfl rfl rfl ?_
              refine Pstep.go (st_fieldP rfl fi80_5 rfl rfl rfl) ?_
              refine o_run rfl rfl rfl ?_
              refine Pstep.go (st_loadP rfl rfl rfl on26 rfl) ?_
              refine o_run rfl rfl rfl ?_
              refine Pstep.go (st_lenMap rfl Tryz.underlying26 rfl) ?_
              refine o_run rfl rfl rfl ?_
              refine Pstep.go (st_gtr rfl rfl rfl) ?_
              refine Pstep.go (st_pickF rfl rfl rfl rfl) ?_
              refine o_nil ?_
              refine a_if rfl (fun h45 => ?_) (fun h45 => ?_)
              · refine a_seq ?_
                refine a_region ?_
                refine Pstep.go (st_assign rfl rfl) ?_
                refine o_nil ?_
                refine a_ret ?_
                exact ⟨_, [], [], res_of rfl, rfl, rfl, retI (checkE_8 (by omega) (by omega)).symm, rfl⟩
              · refine a_skip ?_
                refine a_seq ?_
                refine a_seq ?_
                have hck := checkE_p (i := i) (by omega) (by omega)
                refine a_region ?_
                refine Pstep.go (st_loadPS rfl rfl rw80 rfl rfl rfl) ?_
                refine Pstep.go (st_callP (parts_p i g1 g2 g3) rfl rfl) ?_
                refine Pstep.go (st_assign rfl rfl) ?_
                refine o_nil ?_
                refine a_seq ?_
                refine a_region ?_
                refine Pstep.go (st_move rfl rfl) ?_
                refine Pstep.go (st_neq rfl rfl rfl) ?_
                refine o_nil ?_
                refine a_if rfl (fun h49 => ?_) (fun h49 => ?_)
                · refine a_seq ?_
                  refine a_region ?_
                  refine Pstep.go (st_move rfl rfl) ?_
                  refine Pstep.go (st_assign rfl rfl) ?_
                  refine o_nil ?_
                  refine a_ret ?_
                  exact ⟨_, [], [], res_of rfl, rfl, rfl, retI (by rw [hck, if_neg h49]), rfl⟩
                · refine a_skip ?_
                  refine a_seq ?_
                  refine a_seq ?_
                  have hz : partsE i = 0 := by simpa using h49
                  obtain ⟨hz1, hz2, hz3⟩ := partsE_zero hz
                  rw [if_pos hz] at hck
                  have hb : ItmB i := ⟨by omega, by omega, by omega, post_b hz1, pay_b hz2⟩
                  refine a_region ?_
                  refine Pstep.go (st_assign rfl rfl) ?_
                  refine o_nil ?_
                  refine a_block ?_
                  refine a_loopP (α := Nat) (fun k => ⟨110, [(1, (.ptr 1 0 0)), (4, (.d (intD (k : Int))))], [(1, [.blk 80 [.d (intD i.id), .d (intD i.pr), .d (intD i.sq), .d (.sl none (i.po.map postD)), .d (.sl none (i.pa.map payD)), .d (.sl none (i.af.map intD))]])]⟩) (fun k => k ≤ i.po.length ∧ ∀ p ∈ i.po.take k, assetSum i.po p.acc.a = 0) (fun k => i.po.length - k) (0) (⟨Nat.zero_le _, by simp⟩) (lep_of hF [1] rfl rfl ⟨rfl, rfl, trivial⟩) ?_
                  rintro k ⟨hk0, hk⟩
                  refine a_seq ?_
                  refine a_seq ?_
                  refine a_region ?_
                  refine Pstep.go (st_move rfl rfl) ?_
                  refine Pstep.go (st_fieldP rfl fi80_3 rfl rfl rfl) ?_
                  refine Pstep.go (st_loadP rfl rfl rfl on77 rfl) ?_
                  refine Pstep.go (st_lenMap rfl Tryz.underlying77 rfl) ?_
                  refine Pstep.go (st_lss rfl rfl rfl) ?_
                  refine o_nil ?_
                  refine a_if rfl (fun h55 => ?_) (fun h55 => ?_)
                  · have hk1 : k < i.po.length := lt_cast h55
                    refine a_skip ?_
                    refine a_seq ?_
                    refine a_block ?_
                    refine a_seq ?_
                    refine a_region ?_
                    refine Pstep.go (st_assign rfl rfl) ?_
                    refine o_nil ?_
                    refine a_seq ?_
                    refine a_seq ?_
                    refine a_region ?_
                    refine Pstep.go (st_assign rfl rfl) ?_
                    refine o_nil ?_
                    refine a_block ?_
                    refine a_loopP (α := Nat × Int) (fun q => ⟨110, [(1, (.ptr 1 0 0)), (4, (.d (intD (k : Int)))), (5, (.d (intD q.2))), (6, (.d (intD (q.1 : Int))))], [(1, [.blk 80 [.d (intD i.id), .d (intD i.pr), .d (intD i.sq), .d (.sl none (i.po.map postD)), .d (.sl none (i.pa.map payD)), .d (.sl none (i.af.map intD))]])]⟩) (fun q => q.1 ≤ i.po.length ∧ q.2 = assetSum (i.po.take q.1) i.po[k].acc.a) (fun q => i.po.length - q.1) ((0, 0)) (⟨Nat.zero_le _, rfl⟩) (lep_of hF [1] rfl rfl ⟨rfl, rfl, rfl, rfl, trivial⟩) ?_
                    rintro ⟨m, n⟩ ⟨hm0, hn⟩
                    dsimp only at hm0 hn ⊢
                    refine a_seq ?_
                    refine a_seq ?_
                    refine a_region ?_
                    refine Pstep.go (st_move rfl rfl) ?_
                    refine Pstep.go (st_fieldP rfl fi80_3 rfl rfl rfl) ?_
                    refine Pstep.go (st_loadP rfl rfl rfl on77 rfl) ?_
                    refine Pstep.go (st_lenMap rfl Tryz.underlying77 rfl) ?_
                    refine Pstep.go (st_lss rfl rfl rfl) ?_
                    refine o_nil ?_
                    refine a_if rfl (fun h62 => ?_) (fun h62 => ?_)
                    · have hm1 : m < i.po.length := lt_cast h62
                      refine a_skip ?_
                      refine a_seq ?_
                      refine a_block ?_
                      refine a_seq ?_
                      refine a_drawn [[], [0], [], [0, 1, 2], [0, 1, 2, 3], [0, 1, 2, 3, 4], [0, 1, 2, 3, 4, 5], [], [7], [], [7, 8, 9], [7, 8, 9, 10], [7, 8, 9, 10, 11], [7, 8, 9, 10, 11, 12], [0, 1, 2, 3, 4, 5, 6, 7, 8, 9, 10, 11, 12, 13]] mixed rfl ?_
                      refine dws ?_
                      refine d_pure [1] [] rfl rfl (fun _ => gp_none (st_fieldP rfl fi80_3 rfl rfl rfl)) ?_
                      refine d_pureA [65] rfl rfl (fun _ => gp_none (st_loadP rfl rfl rfl on77 rfl)) ?_
                      refine d_pure [6] [] rfl rfl (fun _ => gp_none (st_move rfl rfl)) ?_
                      refine d_pure [66, 67] [] rfl rfl (fun _ => gp_none (st_indexD (m) rfl rfl (rfl) (getm hm1) Tryz.underlying77 rfl sz144 rfl)) ?_
                      refine d_pure [68] [] rfl rfl (fun _ => gp_none (st_fieldFS rfl fi144_0 rfl rfl rfl)) ?_
                      refine d_pure [69] [] rfl rfl (fun _ => gp_none (st_fieldF1 rfl fi50_2 rfl rfl rfl)) ?_
                      refine d_pure [70] [] rfl rfl (fun _ => gp_none (st_loadD1 rfl rfl on9 rfl)) ?_
                      refine d_pure [1] [] rfl rfl (fun _ => gp_none (st_fieldP rfl fi80_3 rfl rfl rfl)) ?_
                      refine d_pureA [72] rfl rfl (fun _ => gp_none (st_loadP rfl rfl rfl on77 rfl)) ?_
                      refine d_pure [4] [] rfl rfl (fun _ => gp_none (st_move rfl rfl)) ?_
                      refine d_pure [73, 74] [] rfl rfl (fun _ => gp_none (st_indexD (k) rfl rfl (rfl) (getm hk1) Tryz.underlying77 rfl sz144 rfl)) ?_
                      refine d_pure [75] [] rfl rfl (fun _ => gp_none (st_fieldFS rfl fi144_0 rfl rfl rfl)) ?_
                      refine d_pure [76] [] rfl rfl (fun _ => gp_none (st_fieldF1 rfl fi50_2 rfl rfl rfl)) ?_
                      refine d_pure [77] [] rfl rfl (fun _ => gp_none (st_loadD1 rfl rfl on9 rfl)) ?_
                      refine dwc 14 rfl rfl rfl ?_
                      refine dw1 15 rfl rfl ?_
                      refine Pstep.go (st_eqlSL rfl rfl rfl) ?_
                      refine o_nil ⟨rfl, ?_⟩
                      refine dwe ?_
                      refine a_if rfl (fun h79 => ?_) (fun h79 => ?_)
                      · refine a_region ?_
                        refine Pstep.go (st_move rfl rfl) ?_
                        refine Pstep.go (st_fieldP rfl fi80_3 rfl rfl rfl) ?_
                        refine Pstep.go (st_loadP rfl rfl rfl on77 rfl) ?_
                        refine Pstep.go (st_move rfl rfl) ?_
                        refine Pstep.go (st_indexD (m) rfl rfl (rfl) (getm hm1) Tryz.underlying77 rfl sz144 rfl) ?_
                        refine Pstep.go (st_fieldF1 rfl fi144_1 rfl rfl rfl) ?_
                        refine Pstep.go (st_loadD1 rfl rfl on2 rfl) ?_
                        have hdm := hb.d _ (List.getElem_mem hm1)
                        have hgb := assetSum_bound (i.po.take m) i.po[k].acc.a (take_po hb.d)
                        rw [← hn, List.length_take] at hgb
                        simp only [Mx] at hdm
                        refine Pstep.go (st_add rfl rfl (IntWalk.i64_in _ (by omega)) rfl) ?_
                        refine Pstep.go (st_assign rfl rfl) ?_
                        refine o_nil ?_
                        refine a_region ?_
                        refine Pstep.go (st_move rfl rfl) ?_
                        refine Pstep.go (st_add rfl rfl (wrapS (m + 1) (by omega)) rfl) ?_
                        refine Pstep.go (st_assign rfl rfl) ?_
                        refine o_nil ?_
                        exact ⟨(m + 1, _), ⟨by show m + 1 ≤ _; omega, by show _ = assetSum (i.po.take (m + 1)) _; rw [List.take_succ_eq_append_getElem hm1, assetSum_snoc, ← hn, if_pos h79]⟩, by show i.po.length - (m + 1) < i.po.length - m; omega, lep_of hF [1] rfl (rfl) ⟨rfl, rfl, rfl, rfl, trivial⟩⟩
                      · refine a_skip ?_
                        refine a_region ?_
                        refine Pstep.go (st_move rfl rfl) ?_
                        refine Pstep.go (st_add rfl rfl (wrapS (m + 1) (by omega)) rfl) ?_
                        refine Pstep.go (st_assign rfl rfl) ?_
                        refine o_nil ?_
                        exact ⟨(m + 1, _), ⟨by show m + 1 ≤ _; omega, by show _ = assetSum (i.po.take (m + 1)) _; rw [List.take_succ_eq_append_getElem hm1, assetSum_snoc, ← hn, if_neg h79]; exact (Int.add_zero _).symm⟩, by show i.po.length - (m + 1) < i.po.length - m; omega, lep_of hF [1] rfl (rfl) ⟨rfl, rfl, rfl, rfl, trivial⟩⟩
                    · refine a_exit ?_
                      refine a_seq ?_
                      have hS : n = assetSum i.po i.po[k].acc.a := by rw [hn, List.take_of_length_le (by have h := h62; omega)]
                      refine a_region ?_
                      refine Pstep.go (st_move rfl rfl) ?_
                      refine Pstep.go (st_neq rfl rfl rfl) ?_
                      refine o_nil ?_
                      refine a_if rfl (fun h89 => ?_) (fun h89 => ?_)
                      · refine a_seq ?_
                        refine a_region ?_
                        refine Pstep.go (st_assign rfl rfl) ?_
                        refine o_nil ?_
                        refine a_ret ?_
                        exact ⟨_, [], [], res_of rfl, rfl, rfl, retI (by have h := bal_bad2 hk1 (by rw [← hS]; exact h89); rw [hck, fst0, if_neg (by rw [← h]; decide), ← h]), rfl⟩
                      · refine a_skip ?_
                        refine a_region ?_
                        refine Pstep.go (st_move rfl rfl) ?_
                        refine Pstep.go (st_add rfl rfl (wrapS (k + 1) (by omega)) rfl) ?_
                        refine Pstep.go (st_assign rfl rfl) ?_
                        refine o_nil ?_
                        exact ⟨k + 1, ⟨by show k + 1 ≤ _; omega, by rw [List.take_succ_eq_append_getElem hk1]; intro p hp; rcases List.mem_append.1 hp with hp | hp; exact hk p hp; rw [List.mem_singleton.1 hp]; simpa [hS] using h89⟩, by show i.po.length - (k + 1) < i.po.length - k; omega, lep_of hF [1] rfl (rfl) ⟨rfl, rfl, trivial⟩⟩
                  · refine a_exit ?_
                    refine a_seq ?_
                    have hb0 : balE i = 0 := bal_ok2 (fun p hp => hk p (by rw [List.take_of_length_le (by have h := h55; omega)]; exact hp))
                    obtain ⟨T, hT⟩ : ∃ T, touL (ctr i) = T := ⟨_, rfl⟩
                    have htp := touched_p i g1 g2
                    rw [hT] at htp
                    have hTl : T.length ≤ 5000 := by rw [← hT]; have h1 := touL_len (ctr i); have h2 := ctr_length i; omega
                    refine a_region ?_
                    refine Pstep.go (st_loadPS rfl rfl rw80 rfl rfl rfl) ?_
                    refine Pstep.go (st_callP (htp) rfl rfl) ?_
                    refine Pstep.go (st_assign rfl rfl) ?_
                    refine o_nil ?_
                    refine a_seq ?_
                    refine a_seq ?_
                    refine a_region ?_
                    refine Pstep.go (st_assign rfl rfl) ?_
                    refine o_nil ?_
                    refine a_block ?_
                    refine a_loopP (α := Nat) (fun j => ⟨110, [(1, (.ptr 1 0 0)), (7, (.d (.sl none (T.map rscD)))), (8, (.d (intD (j : Int))))], [(1, [.blk 80 [.d (intD i.id), .d (intD i.pr), .d (intD i.sq), .d (.sl none (i.po.map postD)), .d (.sl none (i.pa.map payD)), .d (.sl none (i.af.map intD))]])]⟩) (fun j => j ≤ T.length ∧ ∀ r ∈ T.take j, -Mx ≤ ctrSum (ctr i) r ∧ ctrSum (ctr i) r ≤ Mx) (fun j => T.length - j) (0) (⟨Nat.zero_le _, by simp⟩) (lep_of hF [1] rfl rfl ⟨rfl, rfl, rfl, trivial⟩) ?_
                    rintro j ⟨hj0, hj⟩
                    refine a_seq ?_
                    refine a_seq ?_
                    refine a_region ?_
                    refine Pstep.go (st_move rfl rfl) ?_
                    refine Pstep.go (st_move rfl rfl) ?_
                    refine Pstep.go (st_lenMap rfl Tryz.underlying161 rfl) ?_
                    refine Pstep.go (st_lss rfl rfl rfl) ?_
                    refine o_nil ?_
                    refine a_if rfl (fun h95 => ?_) (fun h95 => ?_)
                    · have hj1 : j < T.length := lt_cast h95
                      refine a_skip ?_
                      refine a_seq ?_
                      refine a_block ?_
                      refine a_seq ?_
                      refine a_drawn [[], [], [], [1, 2], [1, 2, 3], [0, 1, 2, 3, 4], [0, 1, 2, 3, 4, 5]] mixed rfl ?_
                      refine dws ?_
                      have hrd : rdelta i T[j] = ctrSum (ctr i) T[j] := rdelta_eq (tou_valid hz1 hz2 (by rw [hT]; exact List.getElem_mem hj1))
                      refine d_pureA [1] rfl rfl (fun _ => gp_none (st_loadPS rfl rfl rw80 rfl rfl rfl)) ?_
                      refine d_pure [7] [] rfl rfl (fun _ => gp_none (st_move rfl rfl)) ?_
                      refine d_pure [8] [] rfl rfl (fun _ => gp_none (st_move rfl rfl)) ?_
                      refine d_pure [99, 100] [] rfl rfl (fun _ => gp_none (st_indexD (j) rfl rfl (rfl) (getm hj1) Tryz.underlying161 rfl sz52 rfl)) ?_
                      refine d_pure [101] [] rfl rfl (fun _ => gp_none (st_loadDS rfl rfl rw52 rfl)) ?_
                      refine dwc 5 rfl rfl rfl ?_
                      refine dw1 6 rfl rfl ?_
                      refine Pstep.go (st_callP (rdelta_p i T[j] hb) rfl rfl) ?_
                      refine o_nil ⟨rfl, ?_⟩
                      refine dw1 7 rfl rfl ?_
                      refine Pstep.go (st_assign rfl rfl) ?_
                      refine o_nil ⟨rfl, ?_⟩
                      refine dwe ?_
                      refine a_seq ?_
                      refine a_region ?_
                      refine Pstep.go (st_move rfl rfl) ?_
                      refine Pstep.go (st_lss rfl rfl rfl) ?_
                      refine Pstep.go (st_move rfl rfl) ?_
                      refine o_splitP 106 rfl (fun h106 => ?_) (fun h106 => ?_)
                      · refine o_pass rfl rfl rfl rfl ?_
                        refine o_pass rfl rfl rfl rfl ?_
                        refine Pstep.go (st_pickT rfl rfl rfl rfl) ?_
                        refine o_nil ?_
                        refine a_true rfl rfl ?_
                        refine a_seq ?_
                        refine a_region ?_
                        refine Pstep.go (st_assign rfl rfl) ?_
                        refine o_nil ?_
                        refine a_ret ?_
                        exact ⟨_, [], [], res_of rfl, rfl, rfl, retI (by have h := bnd_tou_bad (i := i) (r := T[j]) (by rw [hT]; exact List.getElem_mem hj1) (by rw [← hrd]; simp only [Mx]; omega); rw [hck, fst0, if_pos hb0, fst0, if_neg (by rw [← h]; decide), ← h]), rfl⟩
                      · refine o_run rfl rfl rfl ?_
                        refine Pstep.go (st_move rfl rfl) ?_
                        refine o_run rfl rfl rfl ?_
                        refine Pstep.go (st_gtr rfl rfl rfl) ?_
                        refine Pstep.go (st_pickF rfl rfl rfl rfl) ?_
                        refine o_nil ?_
                        refine a_if rfl (fun h109 => ?_) (fun h109 => ?_)
                        · refine a_seq ?_
                          refine a_region ?_
                          refine Pstep.go (st_assign rfl rfl) ?_
                          refine o_nil ?_
                          refine a_ret ?_
                          exact ⟨_, [], [], res_of rfl, rfl, rfl, retI (by have h := bnd_tou_bad (i := i) (r := T[j]) (by rw [hT]; exact List.getElem_mem hj1) (by rw [← hrd]; simp only [Mx]; omega); rw [hck, fst0, if_pos hb0, fst0, if_neg (by rw [← h]; decide), ← h]), rfl⟩
                        · refine a_skip ?_
                          refine a_region ?_
                          refine Pstep.go (st_move rfl rfl) ?_
                          refine Pstep.go (st_add rfl rfl (wrapS (j + 1) (by omega)) rfl) ?_
                          refine Pstep.go (st_assign rfl rfl) ?_
                          refine o_nil ?_
                          exact ⟨j + 1, ⟨by show j + 1 ≤ _; omega, by rw [List.take_succ_eq_append_getElem hj1]; intro r hr; rcases List.mem_append.1 hr with hr | hr; exact hj r hr; rw [List.mem_singleton.1 hr, ← hrd]; simp only [Mx]; omega⟩, by show T.length - (j + 1) < T.length - j; omega, lep_of hF [1] rfl (rfl) ⟨rfl, rfl, rfl, trivial⟩⟩
                    · refine a_exit ?_
                      refine a_seq ?_
                      refine a_region ?_
                      refine Pstep.go (st_assign rfl rfl) ?_
                      refine o_nil ?_
                      refine a_ret ?_
                      exact ⟨_, [], [], res_of rfl, rfl, rfl, retI (by have h := bnd_tou (i := i) (fun r hr => hj r (by rw [List.take_of_length_le (by have h := h95; omega), ← hT]; exact hr)); rw [hck, fst0, if_pos hb0, fst0, if_pos h.symm]; rfl), rfl⟩
end Go.Proofs.YtnamabifclidmaaGreat
