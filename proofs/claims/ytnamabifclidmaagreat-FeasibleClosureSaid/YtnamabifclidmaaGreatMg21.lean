/- Layer 29: overdrawn resources; the package's functions. -/
import Derived.Test.YtnamabifclidmaaGreatMg20
namespace Go.Proofs.YtnamabifclidmaaGreat
open Go.RowKit

def vioS (p : Prb) (r : Rsc) (l : List (Int × Bool)) : Int := (l.map fun e => if e.2 = true then dltE (itmOf p e.1) r else 0).sum
theorem vioS_perm {p : Prb} {r : Rsc} {l m : List (Int × Bool)} (h : l.Perm m) : vioS p r l = vioS p r m := perm_sum h _
theorem vioS_cons (p : Prb) (r : Rsc) (e : Int × Bool) (l : List (Int × Bool)) : vioS p r (e :: l) = (if e.2 = true then dltE (itmOf p e.1) r else 0) + vioS p r l := by simp [vioS]
theorem vioS_cons' (p : Prb) (r : Rsc) (k : Int) (v : Bool) (l : List (Int × Bool)) : vioS p r ((k, v) :: l) = (if v = true then dltE (itmOf p k) r else 0) + vioS p r l := vioS_cons p r (k, v) l
theorem choE_prb {p : Prb} {l : List Int} (h : choE p l = 0) : prbE p = 0 := by
  unfold choE at h; split at h
  · exact h
  · rename_i hn; simpa using hn
theorem retT2 {a b : Bool} {x : D} (h : a = b) : AV.d (.tup [.raw (.bool a), x]) = .d (.tup [.raw (.bool b), x]) := by rw [h]
theorem dltE_b (i : Itm) (r : Rsc) : -1000000000000000 ≤ dltE i r ∧ dltE i r ≤ 1000000000000000 := by
  unfold dltE
  split
  · rename_i h; simpa [Mx] using bnd_sum h.1 r
  · omega
theorem vioS_b (p : Prb) (r : Rsc) {l : List (Int × Bool)} (h : l.length ≤ 1000) : -1000000000000000000 ≤ vioS p r l ∧ vioS p r l ≤ 1000000000000000000 := by
  have := sum_bound (l := l) (f := fun e => if e.2 = true then dltE (itmOf p e.1) r else 0) (B := 1000000000000000) (fun e _ => by
    show _ ≤ (if e.2 = true then _ else _) ∧ _
    have := dltE_b (itmOf p e.1) r
    split <;> omega) 1000 h (by omega)
  unfold vioS; omega
def vio1 (p : Prb) (M : List (Int × Bool)) (x : Lin) : List Roo := if x.n + vioS p x.r M < 0 then [⟨x.r, 0 - (x.n + vioS p x.r M)⟩] else []
def viol (p : Prb) (M : List (Int × Bool)) : List Roo := (linL p).flatMap (vio1 p M)
theorem linL_n {p : Prb} (hp : prbE p = 0) (x : Lin) (hx : x ∈ linL p) : 0 ≤ x.n ∧ x.n ≤ 4000000000000000 := by
  unfold linL at hx
  obtain ⟨y, hy, rfl⟩ := List.mem_map.1 hx
  have := rooms_amt (prb_ok hp).1 y ((linR_perm p.ro).mem_iff.1 hy)
  show 0 ≤ max y.n 0 ∧ max y.n 0 ≤ _
  omega
abbrev HM3 (p : Prb) (mv : Nat) (M : List (Int × Bool)) : Hp := HA p ++ [(12, [mapC intD boolD M]), (13, [.addr 12 0 (.map (some mv))])]
set_option maxRecDepth 100000 in
theorem violations_c (p : Prb) (mv : Nat) (M : List (Int × Bool)) (hp : prbE p = 0) (hb : PrbB p) (hM : M.length ≤ 1000) : ACalls Tryz.prog 47 [.ptr 10 0 0, mapV mv] (HM3 p mv M) fun r H' => r = .d (.sl none ((viol p M).map rooD)) ∧ H' = HM3 p mv M := by
  have hb1 := hb.1
  have hLl := linL_len p
  refine a_enter Tryz.func47 rfl rfl Tryz.ntmps47 rfl rfl rfl fun F hF => ?_
  refine a_seq ?_
  refine a_region ?_
  refine Pstep.go (st_assign rfl rfl) ?_
  refine o_nil ?_
  refine a_seq ?_
  refine a_region ?_
  refine Pstep.go (st_assign rfl rfl) ?_
  refine o_nil ?_
  refine a_seq ?_
  refine a_seq ?_
  refine a_adopt 5 900 sl56 rfl rfl rfl rfl ?_
  refine a_region ?_
  refine Pstep.go (st_move rfl rfl) ?_
  refine Pstep.go (st_nilCheckP rfl rfl) ?_
  refine Pstep.go (st_fieldP rfl fi154_2 rfl rfl rfl) ?_
  refine Pstep.go (st_loadP rfl rfl rfl on152 rfl) ?_
  refine Pstep.go (st_lenMap rfl Tryz.underlying152 rfl) ?_
  refine Pstep.go (st_move rfl rfl) ?_
  refine o_nil ?_
  refine a_block ?_
  refine a_loopP (α := Nat × List Roo) (fun q => ⟨53, [(0, .ptr 10 0 0), (1, mapV mv), (5, (.own 900 0 q.2.length)), (14, (.d (.sl none ((linL p).map linD)))), (15, (.d (intD ((linL p).length : Int)))), (16, (.d (intD (q.1 : Int))))], HM3 p mv M ++ [(900, [.rowD 62 7 (q.2.map rooD)])]⟩) (fun q => q.1 ≤ (linL p).length ∧ q.2 = ((linL p).take q.1).flatMap (vio1 p M) ∧ q.2.length ≤ q.1) (fun q => (linL p).length - q.1) ((0, [])) (⟨Nat.zero_le _, rfl, Nat.le_refl _⟩) (lep_of hF [10, 11, 12, 13, 900] rfl rfl ⟨rfl, rfl, rfl, rfl, rfl, rfl, trivial⟩) ?_
  rintro ⟨k, acc⟩ ⟨hk0, hA, hL⟩
  dsimp only at hk0 hA hL ⊢
  refine a_seq ?_
  refine a_region ?_
  refine Pstep.go (st_lss rfl rfl rfl) ?_
  refine o_nil ?_
  refine a_seq ?_
  refine a_if rfl (fun h17 => ?_) (fun h17 => ?_)
  · have hk1 : k < (linL p).length := lt_cast h17
    refine a_skip ?_
    refine a_seq ?_
    refine a_block ?_
    refine a_seq ?_
    refine a_region ?_
    have hxn := linL_n hp _ (List.getElem_mem hk1)
    refine Pstep.go (st_indexD (k) rfl rfl (rfl) (getm hk1) Tryz.underlying152 rfl sz157 rfl) ?_
    refine Pstep.go (st_loadDS rfl rfl rw157 rfl) ?_
    refine Estep.go (st_alloc 1 zl157 rfl rfl rfl rfl) ?_
    refine Estep.go (st_storeP rfl rfl rfl rfl rfl rfl rfl sz157) ?_
    refine o_nil ?_
    refine a_seq ?_
    refine a_region ?_
    refine Pstep.go (st_fieldP rfl fi157_1 rfl rfl rfl) ?_
    refine Pstep.go (st_loadP rfl rfl rfl on2 rfl) ?_
    refine Pstep.go (st_assign rfl rfl) ?_
    refine o_nil ?_
    refine a_seq ?_
    refine a_seq ?_
    refine a_region ?_
    refine Pstep.go (st_move rfl rfl) ?_
    refine o_rawMap 22 13 0 rfl rfl ?_
    refine Estep.go (st_range 2 rfl rfl rfl mt108 rfl rfl rfl rfl) ?_
    refine o_nil ?_
    refine a_block ?_
    refine a_loopP (α := List Nat × Int) (fun q => ⟨53, [(0, .ptr 10 0 0), (1, mapV mv), (5, (.own 900 0 acc.length)), (7, (.ptr 1 0 0)), (8, (.d (intD q.2))), (14, (.d (.sl none ((linL p).map linD)))), (15, (.d (intD ((linL p).length : Int)))), (16, (.d (intD (k : Int)))), (23, (.ptr 2 0 0))], HM3 p mv M ++ [(900, [.rowD 62 7 (acc.map rooD)]), (1, [.blk 157 [.d (intD (linL p)[k].r.k), .d (strD (linL p)[k].r.acc.o), .d (intD (linL p)[k].r.acc.k), .d (strD (linL p)[k].r.acc.a), .d (strD (linL p)[k].r.f), .d (strD (linL p)[k].r.t), .d (intD (linL p)[k].n), .d (.sl none ((linL p)[k].q.map intD))]]), (2, [.iter 12 0 M.length q.1])]⟩) (fun q => q.2 + vioS p (linL p)[k].r (lft M (List.range M.length) q.1) = (linL p)[k].n + vioS p (linL p)[k].r M) (fun q => (lft M (List.range M.length) q.1).length) (([], (linL p)[k].n)) (by show (linL p)[k].n + vioS p (linL p)[k].r (lft M (List.range M.length) []) = _; rw [lft_start (by simp)]) (lep_of hF [10, 11, 12, 13, 900, 1, 2] rfl rfl ⟨rfl, rfl, rfl, rfl, rfl, rfl, rfl, rfl, rfl, trivial⟩) ?_
    rintro ⟨seen, left⟩ hI
    dsimp only at hI ⊢
    refine a_seq ?_
    refine a_region ?_
    refine o_next (M) rfl rfl rfl rfl (fun hl24 => ?_) (fun j24 b24 k24 v24 hm24 hb24 hB24 hp24 => ⟨_, rfl, ?_⟩)
    · have hfin : left = (linL p)[k].n + vioS p (linL p)[k].r M := by have h1 := hI; rw [hl24] at h1; have h2 : vioS p (linL p)[k].r [] = 0 := rfl; omega
      refine Pstep.go (st_extract rfl rfl rfl) ?_
      refine o_nil ?_
      refine a_seq ?_
      refine a_false rfl rfl ?_
      refine a_exit ?_
      refine a_seq ?_
      refine a_region ?_
      refine Pstep.go (st_move rfl rfl) ?_
      refine Pstep.go (st_lss rfl rfl rfl) ?_
      refine o_nil ?_
      refine a_if rfl (fun h42 => ?_) (fun h42 => ?_)
      · refine a_region ?_
        have hv4 := vioS_b p (linL p)[k].r hM
        refine Pstep.go (st_move rfl rfl) ?_
        refine Pstep.go (st_fieldP rfl fi157_0 rfl rfl rfl) ?_
        refine Pstep.go (st_loadPS rfl rfl rw47 rfl rfl rfl) ?_
        refine Pstep.go (st_move rfl rfl) ?_
        refine Pstep.go (st_neg rfl (IntWalk.i64_in _ (by omega)) rfl) ?_
        refine Pstep.go (st_build zl62 pl62 rfl rfl rfl) ?_
        refine Estep.go (st_buildSlice 3 sl56 rfl rfl rfl rfl rfl rfl rfl rfl) ?_
        refine Estep.go (st_appM (acc) ([⟨(linL p)[k].r, 0 - left⟩]) rfl rfl rfl rfl rfl rfl rfl rfl sl56 (by simp only [List.length_singleton]; omega) rfl rfl rfl rfl) ?_
        refine Pstep.go (st_assign rfl rfl) ?_
        refine o_nil ?_
        refine a_region ?_
        refine Pstep.go (st_add rfl rfl (wrapS (k + 1) (by omega)) rfl) ?_
        refine Pstep.go (st_move rfl rfl) ?_
        refine o_nil ?_
        exact ⟨(k + 1, acc ++ [⟨(linL p)[k].r, 0 - left⟩]), ⟨by show k + 1 ≤ _; omega, by show acc ++ [⟨(linL p)[k].r, 0 - left⟩] = ((linL p).take (k + 1)).flatMap (vio1 p M); rw [flat_snoc hk1, ← hA]; unfold vio1; rw [← hfin, if_pos (by simpa using h42)], by show (acc ++ [_]).length ≤ k + 1; rw [List.length_append]; simp; omega⟩, by show (linL p).length - (k + 1) < (linL p).length - k; omega, lep_of hF [10, 11, 12, 13, 900] rfl (rfl) ⟨rfl, rfl, rfl, rfl, rfl, rfl, trivial⟩⟩
      · refine a_skip ?_
        refine a_region ?_
        refine Pstep.go (st_add rfl rfl (wrapS (k + 1) (by omega)) rfl) ?_
        refine Pstep.go (st_move rfl rfl) ?_
        refine o_nil ?_
        exact ⟨(k + 1, acc), ⟨by show k + 1 ≤ _; omega, by show acc = ((linL p).take (k + 1)).flatMap (vio1 p M); rw [flat_snoc hk1, ← hA]; unfold vio1; rw [← hfin, if_neg (by simpa using h42), List.append_nil], by show acc.length ≤ k + 1; omega⟩, by show (linL p).length - (k + 1) < (linL p).length - k; omega, lep_of hF [10, 11, 12, 13, 900] rfl (rfl) ⟨rfl, rfl, rfl, rfl, rfl, rfl, trivial⟩⟩
    · refine Pstep.go (st_extract rfl rfl rfl) ?_
      refine o_nil ?_
      refine a_seq ?_
      refine a_true rfl rfl ?_
      refine a_skip ?_
      refine a_block ?_
      refine a_seq ?_
      refine a_region ?_
      refine Pstep.go (st_entry (M) j24 b24 rfl rfl rfl hm24 hb24 rfl) ?_
      refine Pstep.go (st_extract rfl rfl rfl) ?_
      refine Pstep.go (st_extract rfl rfl rfl) ?_
      refine Pstep.go (st_assign rfl rfl) ?_
      refine Pstep.go (st_assign rfl rfl) ?_
      refine o_nil ?_
      refine a_seq ?_
      refine a_region ?_
      refine Pstep.go (st_move rfl rfl) ?_
      refine o_nil ?_
      refine a_cond rfl (fun h29 => ?_) (fun h29 => ?_)
      · refine a_drawn [[], [], [1], [1, 2], [1, 2, 3], [], [1, 2, 3, 4, 5], [], [7], [1, 2, 3, 4, 5, 6, 7, 8], [0, 1, 2, 3, 4, 5, 6, 7, 8, 9], [0, 1, 2, 3, 4, 5, 6, 7, 8, 9, 10]] mixed rfl ?_
        refine dws ?_
        have hb3 := itmOf_B hb k24
        have hv1 := vioS_b p (linL p)[k].r hM
        have hv2 := vioS_b p (linL p)[k].r (Nat.le_trans (lft_len (m := M) (B := List.range M.length) (seen := seen)) hM)
        have hv3 := dltE_b (itmOf p k24) (linL p)[k].r
        refine d_pure [8] [] rfl rfl (fun _ => gp_none (st_move rfl rfl)) ?_
        refine d_pure [0] [] rfl rfl (fun _ => gp_none (st_move rfl rfl)) ?_
        refine d_pure [31] [] rfl rfl (fun _ => gp_none (st_nilCheckP rfl rfl)) ?_
        refine d_pure [32] [] rfl rfl (fun _ => gp_none (st_fieldP rfl fi154_0 rfl rfl rfl)) ?_
        refine d_pureA [33] rfl rfl (fun _ => gp_none (st_loadP rfl rfl rfl on151 rfl)) ?_
        refine d_pure [9] [] rfl rfl (fun _ => gp_none (st_move rfl rfl)) ?_
        refine d_pureA [34, 35] rfl rfl (fun _ => gp_none (st_lookW (itemsM p.it) k24 itm0 (itmOf p k24) rfl rfl rfl mt151 kt3 za100 itm0_weakD (itmOf_get p k24) rfl)) ?_
        refine d_pure [7] [] rfl rfl (fun _ => gp_none (st_fieldP rfl fi157_0 rfl rfl rfl)) ?_
        refine d_pureA [37] rfl rfl (fun _ => gp_none (st_loadPS rfl rfl rw47 rfl rfl rfl)) ?_
        refine d_pure [36, 38] [] rfl rfl (fun _ => gp_none (st_callP (delta_p (itmOf p k24) (linL p)[k].r (by omega) (by omega) (by omega)) rfl rfl)) ?_
        refine dwc 10 rfl rfl rfl ?_
        refine dw1 11 rfl rfl ?_
        refine Pstep.go (st_add rfl rfl (IntWalk.i64_in _ (by omega)) rfl) ?_
        refine o_nil ⟨rfl, ?_⟩
        refine dw1 12 rfl rfl ?_
        refine Pstep.go (st_assign rfl rfl) ?_
        refine o_nil ⟨rfl, ?_⟩
        refine dwe ?_
        exact ⟨(seen ++ [b24], left + dltE (itmOf p k24) (linL p)[k].r), (by show left + dltE (itmOf p k24) (linL p)[k].r + vioS p (linL p)[k].r (lft M (List.range M.length) (seen ++ [b24])) = _; rw [← hI, vioS_perm hp24, vioS_cons', if_pos (by simpa using h29)]; omega), by show (lft M (List.range M.length) (seen ++ [b24])).length < (lft M (List.range M.length) seen).length; rw [hp24.length_eq]; exact Nat.lt_succ_self _, lep_of hF [10, 11, 12, 13, 900, 1, 2] rfl (rfl) ⟨rfl, rfl, rfl, rfl, rfl, rfl, rfl, rfl, rfl, trivial⟩⟩
      · refine a_skip ?_
        exact ⟨(seen ++ [b24], left), (by show left + vioS p (linL p)[k].r (lft M (List.range M.length) (seen ++ [b24])) = _; rw [← hI, vioS_perm hp24, vioS_cons', if_neg (by simpa using h29)]; omega), by show (lft M (List.range M.length) (seen ++ [b24])).length < (lft M (List.range M.length) seen).length; rw [hp24.length_eq]; exact Nat.lt_succ_self _, lep_of hF [10, 11, 12, 13, 900, 1, 2] rfl (rfl) ⟨rfl, rfl, rfl, rfl, rfl, rfl, rfl, rfl, rfl, trivial⟩⟩
  · refine a_exit ?_
    refine a_seq ?_
    have hfa : acc = viol p M := by rw [hA, List.take_of_length_le (by have h := h17; omega)]; rfl
    refine a_freezeM (emb := rooD) 5 900 acc rfl rfl rfl rfl rfl rfl rfl ?_
    refine a_region ?_
    refine Pstep.go (st_move rfl rfl) ?_
    refine Pstep.go (st_assign rfl rfl) ?_
    refine o_nil ?_
    refine a_ret ?_
    exact ⟨_, [10, 11, 12, 13], _, res_of rfl, rfl, rfl, by rw [hfa], rfl⟩
def inL (l : List Int) (x : Int) : Bool := decide (x ∈ l)
theorem inM_set (l : List Int) : inM (setM l) = inL l := funext fun x => by unfold inM inL; exact setM_get l x
set_option maxRecDepth 100000 in
theorem blocksF_p (p : Prb) (l : List Int) (hb : PrbB p) (hl : l.length ≤ 1000) (h1 : p.it.length ≤ 1000) (h2 : p.ro.length ≤ 1000) : PCalls Tryz.prog 21 [.d (prbD p), .d (.sl none (l.map intD))] (.tup [.sl none ((if choE p l = 0 then blks p (inL l) else []).map bkdD), intD (choE p l)]) := by
  by_cases hE : choE p l = 0
  · have hpr := (prepare_ok p l hb (by omega) hE).by [(2, 12)] rfl
    rw [if_pos hE, hE]
    have hbk := fun mv => blocks_c p mv (some (List.range (setM l).length, (setM l).length)) (setM l) hb h1 h2
    rw [inM_set] at hbk
    refine a_enter Tryz.func21 rfl rfl Tryz.ntmps21 rfl rfl rfl fun F hF => ?_
    refine a_seq ?_
    refine a_region ?_
    refine Estep.go (st_box 1 rfl rfl rfl rfl rfl rfl rfl) ?_
    refine Pstep.go (st_assign rfl rfl) ?_
    refine Pstep.go (st_assign rfl rfl) ?_
    refine o_nil ?_
    refine a_seq ?_
    refine a_region ?_
    refine Pstep.go (st_loadPS rfl rfl rw35 rfl rfl rfl) ?_
    refine Pstep.go (st_move rfl rfl) ?_
    refine Estep.go (st_callD hpr rfl [10, 11, 12] ⟨rfl, rfl, rfl, trivial⟩ rfl rfl rfl rfl rfl rfl rfl rfl rfl) ?_
    refine Pstep.go (st_move rfl rfl) ?_
    refine Pstep.go (st_extract rfl rfl rfl) ?_
    refine Pstep.go (st_extract rfl rfl rfl) ?_
    refine Pstep.go (st_extract rfl rfl rfl) ?_
    refine Pstep.go (st_assign rfl rfl) ?_
    refine Pstep.go (st_assign rfl rfl) ?_
    refine Pstep.go (st_assign rfl rfl) ?_
    refine o_nil ?_
    refine a_seq ?_
    refine a_seq ?_
    refine a_region ?_
    refine Pstep.go (st_move rfl rfl) ?_
    refine Pstep.go (st_neq rfl rfl rfl) ?_
    refine o_nil ?_
    refine a_false rfl ((by decide)) ?_
    refine a_skip ?_
    refine a_seq ?_
    refine a_ghostM 13 12 0 rfl rfl rfl rfl rfl fun mv => ?_
    refine a_toRaw 7 13 0 (.inl rfl) rfl ?_
    refine a_region ?_
    refine Pstep.go (st_move rfl rfl) ?_
    refine Pstep.go (st_move rfl rfl) ?_
    refine Estep.go (st_callD (hbk mv) rfl [10, 11, 12, 13] ⟨rfl, rfl, rfl, rfl, trivial⟩ rfl rfl rfl rfl rfl rfl rfl rfl rfl) ?_
    refine Pstep.go (st_assign rfl rfl) ?_
    refine Pstep.go (st_assign rfl rfl) ?_
    refine o_nil ?_
    refine a_ret ?_
    exact ⟨_, [], [], res_of rfl, rfl, rfl, rfl, rfl⟩
  · have hpr := prepare_bad p l hb (by omega) hE
    rw [if_neg hE]
    refine a_enter Tryz.func21 rfl rfl Tryz.ntmps21 rfl rfl rfl fun F hF => ?_
    refine a_seq ?_
    refine a_region ?_
    refine Estep.go (st_box 1 rfl rfl rfl rfl rfl rfl rfl) ?_
    refine Pstep.go (st_assign rfl rfl) ?_
    refine o_anyNil 4 rfl ?_
    refine Pstep.go (st_assign rfl rfl) ?_
    refine o_nil ?_
    refine a_seq ?_
    refine a_region ?_
    refine Pstep.go (st_loadPS rfl rfl rw35 rfl rfl rfl) ?_
    refine Pstep.go (st_move rfl rfl) ?_
    refine Pstep.go (st_callP (hpr) rfl rfl) ?_
    refine Pstep.go (st_move rfl rfl) ?_
    refine Pstep.go (st_extractD rfl rfl rfl) ?_
    refine Pstep.go (st_extractD rfl rfl rfl) ?_
    refine Pstep.go (st_extractD rfl rfl rfl) ?_
    refine Pstep.go (st_assign rfl rfl) ?_
    refine Pstep.go (st_assign rfl rfl) ?_
    refine Pstep.go (st_assign rfl rfl) ?_
    refine o_nil ?_
    refine a_seq ?_
    refine a_seq ?_
    refine a_region ?_
    refine Pstep.go (st_move rfl rfl) ?_
    refine Pstep.go (st_neq rfl rfl rfl) ?_
    refine o_nil ?_
    refine a_true rfl ((decide_eq_true hE)) ?_
    refine a_seq ?_
    refine a_region ?_
    refine Pstep.go (st_move rfl rfl) ?_
    refine Pstep.go (st_assign rfl rfl) ?_
    refine o_anyNil 4 rfl ?_
    refine Pstep.go (st_assign rfl rfl) ?_
    refine o_nil ?_
    refine a_ret ?_
    exact ⟨_, [], [], res_of rfl, rfl, rfl, rfl, rfl⟩
set_option maxRecDepth 100000 in
theorem admF_p (p : Prb) (l : List Int) (hb : PrbB p) (hl : l.length ≤ 1000) (h1 : p.it.length ≤ 1000) (h2 : p.ro.length ≤ 1000) : PCalls Tryz.prog 15 [.d (prbD p), .d (.sl none (l.map intD))] (.tup [boolD (decide (choE p l = 0 ∧ blks p (inL l) = [])), intD (choE p l)]) := by
  have hbk := blocksF_p p l hb hl h1 h2
  refine a_enter Tryz.func15 rfl rfl Tryz.ntmps15 rfl rfl rfl fun F hF => ?_
  refine a_seq ?_
  refine a_region ?_
  refine Estep.go (st_box 1 rfl rfl rfl rfl rfl rfl rfl) ?_
  refine Pstep.go (st_assign rfl rfl) ?_
  refine Pstep.go (st_assign rfl rfl) ?_
  refine o_nil ?_
  refine a_seq ?_
  refine a_region ?_
  refine Pstep.go (st_loadPS rfl rfl rw35 rfl rfl rfl) ?_
  refine Pstep.go (st_move rfl rfl) ?_
  refine Pstep.go (st_callP (hbk) rfl rfl) ?_
  refine Pstep.go (st_move rfl rfl) ?_
  refine Pstep.go (st_extractD rfl rfl rfl) ?_
  refine Pstep.go (st_extractD rfl rfl rfl) ?_
  refine Pstep.go (st_assign rfl rfl) ?_
  refine Pstep.go (st_assign rfl rfl) ?_
  refine o_nil ?_
  refine a_seq ?_
  refine a_region ?_
  refine Pstep.go (st_move rfl rfl) ?_
  refine Pstep.go (st_eql rfl rfl rfl) ?_
  refine Pstep.go (st_move rfl rfl) ?_
  refine o_splitP 16 rfl (fun h16 => ?_) (fun h16 => ?_)
  · refine o_run rfl rfl rfl ?_
    refine Pstep.go (st_move rfl rfl) ?_
    refine o_run rfl rfl rfl ?_
    refine Pstep.go (st_lenMap rfl Tryz.underlying39 rfl) ?_
    refine o_run rfl rfl rfl ?_
    refine Pstep.go (st_eql rfl rfl rfl) ?_
    refine Pstep.go (st_pickT rfl rfl rfl rfl) ?_
    refine Pstep.go (st_move rfl rfl) ?_
    refine Pstep.go (st_assign rfl rfl) ?_
    refine Pstep.go (st_assign rfl rfl) ?_
    refine o_nil ?_
    refine a_ret ?_
    exact ⟨_, [], [], res_of rfl, rfl, rfl, retT2 (by first | (rw [Bool.eq_iff_iff]; simp [h16, List.length_eq_zero_iff]; done) | (rw [Bool.eq_iff_iff]; simp_all)), rfl⟩
  · refine o_pass rfl rfl rfl rfl ?_
    refine o_pass rfl rfl rfl rfl ?_
    refine o_pass rfl rfl rfl rfl ?_
    refine Pstep.go (st_pickF rfl rfl rfl rfl) ?_
    refine Pstep.go (st_move rfl rfl) ?_
    refine Pstep.go (st_assign rfl rfl) ?_
    refine Pstep.go (st_assign rfl rfl) ?_
    refine o_nil ?_
    refine a_ret ?_
    exact ⟨_, [], [], res_of rfl, rfl, rfl, retT2 (by first | (rw [Bool.eq_iff_iff]; simp [h16, List.length_eq_zero_iff]; done) | (rw [Bool.eq_iff_iff]; simp_all)), rfl⟩
set_option maxRecDepth 100000 in
theorem violF_p (p : Prb) (l : List Int) (hb : PrbB p) (hl : l.length ≤ 1000) : PCalls Tryz.prog 24 [.d (prbD p), .d (.sl none (l.map intD))] (.tup [.sl none ((if choE p l = 0 then viol p (setM l) else []).map rooD), intD (choE p l)]) := by
  by_cases hE : choE p l = 0
  · have hpr := (prepare_ok p l hb (by omega) hE).by [(2, 12)] rfl
    have h0 := choE_prb hE
    rw [if_pos hE, hE]
    have hbk := fun mv => violations_c p mv (setM l) h0 hb (by unfold setM; rw [List.length_map]; exact hl)
    refine a_enter Tryz.func24 rfl rfl Tryz.ntmps24 rfl rfl rfl fun F hF => ?_
    refine a_seq ?_
    refine a_region ?_
    refine Estep.go (st_box 1 rfl rfl rfl rfl rfl rfl rfl) ?_
    refine Pstep.go (st_assign rfl rfl) ?_
    refine Pstep.go (st_assign rfl rfl) ?_
    refine o_nil ?_
    refine a_seq ?_
    refine a_region ?_
    refine Pstep.go (st_loadPS rfl rfl rw35 rfl rfl rfl) ?_
    refine Pstep.go (st_move rfl rfl) ?_
    refine Estep.go (st_callD hpr rfl [10, 11, 12] ⟨rfl, rfl, rfl, trivial⟩ rfl rfl rfl rfl rfl rfl rfl rfl rfl) ?_
    refine Pstep.go (st_move rfl rfl) ?_
    refine Pstep.go (st_extract rfl rfl rfl) ?_
    refine Pstep.go (st_extract rfl rfl rfl) ?_
    refine Pstep.go (st_extract rfl rfl rfl) ?_
    refine Pstep.go (st_assign rfl rfl) ?_
    refine Pstep.go (st_assign rfl rfl) ?_
    refine Pstep.go (st_assign rfl rfl) ?_
    refine o_nil ?_
    refine a_seq ?_
    refine a_seq ?_
    refine a_region ?_
    refine Pstep.go (st_move rfl rfl) ?_
    refine Pstep.go (st_neq rfl rfl rfl) ?_
    refine o_nil ?_
    refine a_false rfl ((by decide)) ?_
    refine a_skip ?_
    refine a_seq ?_
    refine a_ghostM 13 12 0 rfl rfl rfl rfl rfl fun mv => ?_
    refine a_toRaw 7 13 0 (.inl rfl) rfl ?_
    refine a_region ?_
    refine Pstep.go (st_move rfl rfl) ?_
    refine Pstep.go (st_move rfl rfl) ?_
    refine Estep.go (st_callD (hbk mv) rfl [10, 11, 12, 13] ⟨rfl, rfl, rfl, rfl, trivial⟩ rfl rfl rfl rfl rfl rfl rfl rfl rfl) ?_
    refine Pstep.go (st_assign rfl rfl) ?_
    refine Pstep.go (st_assign rfl rfl) ?_
    refine o_nil ?_
    refine a_ret ?_
    exact ⟨_, [], [], res_of rfl, rfl, rfl, rfl, rfl⟩
  · have hpr := prepare_bad p l hb (by omega) hE
    rw [if_neg hE]
    refine a_enter Tryz.func24 rfl rfl Tryz.ntmps24 rfl rfl rfl fun F hF => ?_
    refine a_seq ?_
    refine a_region ?_
    refine Estep.go (st_box 1 rfl rfl rfl rfl rfl rfl rfl) ?_
    refine Pstep.go (st_assign rfl rfl) ?_
    refine o_anyNil 4 rfl ?_
    refine Pstep.go (st_assign rfl rfl) ?_
    refine o_nil ?_
    refine a_seq ?_
    refine a_region ?_
    refine Pstep.go (st_loadPS rfl rfl rw35 rfl rfl rfl) ?_
    refine Pstep.go (st_move rfl rfl) ?_
    refine Pstep.go (st_callP (hpr) rfl rfl) ?_
    refine Pstep.go (st_move rfl rfl) ?_
    refine Pstep.go (st_extractD rfl rfl rfl) ?_
    refine Pstep.go (st_extractD rfl rfl rfl) ?_
    refine Pstep.go (st_extractD rfl rfl rfl) ?_
    refine Pstep.go (st_assign rfl rfl) ?_
    refine Pstep.go (st_assign rfl rfl) ?_
    refine Pstep.go (st_assign rfl rfl) ?_
    refine o_nil ?_
    refine a_seq ?_
    refine a_seq ?_
    refine a_region ?_
    refine Pstep.go (st_move rfl rfl) ?_
    refine Pstep.go (st_neq rfl rfl rfl) ?_
    refine o_nil ?_
    refine a_true rfl ((decide_eq_true hE)) ?_
    refine a_seq ?_
    refine a_region ?_
    refine Pstep.go (st_move rfl rfl) ?_
    refine Pstep.go (st_assign rfl rfl) ?_
    refine o_anyNil 4 rfl ?_
    refine Pstep.go (st_assign rfl rfl) ?_
    refine o_nil ?_
    refine a_ret ?_
    exact ⟨_, [], [], res_of rfl, rfl, rfl, rfl, rfl⟩
set_option maxRecDepth 100000 in
theorem feasF_p (p : Prb) (l : List Int) (hb : PrbB p) (hl : l.length ≤ 1000) (h1 : p.it.length ≤ 1000) (h2 : p.ro.length ≤ 1000) : PCalls Tryz.prog 17 [.d (prbD p), .d (.sl none (l.map intD))] (.tup [boolD (decide (choE p l = 0 ∧ blks p (inL l) = [] ∧ viol p (setM l) = [])), intD (choE p l)]) := by
  by_cases hE : choE p l = 0
  · have hpr := (prepare_ok p l hb (by omega) hE).by [(2, 12)] rfl
    have h0 := choE_prb hE
    have hbk := fun mv => blocks_c p mv (some (List.range (setM l).length, (setM l).length)) (setM l) hb h1 h2
    rw [inM_set] at hbk
    have hvk := fun mv => violations_c p mv (setM l) h0 hb (by unfold setM; rw [List.length_map]; exact hl)
    rw [hE]
    refine a_enter Tryz.func17 rfl rfl Tryz.ntmps17 rfl rfl rfl fun F hF => ?_
    refine a_seq ?_
    refine a_region ?_
    refine Estep.go (st_box 1 rfl rfl rfl rfl rfl rfl rfl) ?_
    refine Pstep.go (st_assign rfl rfl) ?_
    refine Pstep.go (st_assign rfl rfl) ?_
    refine o_nil ?_
    refine a_seq ?_
    refine a_region ?_
    refine Pstep.go (st_loadPS rfl rfl rw35 rfl rfl rfl) ?_
    refine Pstep.go (st_move rfl rfl) ?_
    refine Estep.go (st_callD hpr rfl [10, 11, 12] ⟨rfl, rfl, rfl, trivial⟩ rfl rfl rfl rfl rfl rfl rfl rfl rfl) ?_
    refine Pstep.go (st_move rfl rfl) ?_
    refine Pstep.go (st_extract rfl rfl rfl) ?_
    refine Pstep.go (st_extract rfl rfl rfl) ?_
    refine Pstep.go (st_extract rfl rfl rfl) ?_
    refine Pstep.go (st_assign rfl rfl) ?_
    refine Pstep.go (st_assign rfl rfl) ?_
    refine Pstep.go (st_assign rfl rfl) ?_
    refine o_nil ?_
    refine a_seq ?_
    refine a_seq ?_
    refine a_region ?_
    refine Pstep.go (st_move rfl rfl) ?_
    refine Pstep.go (st_neq rfl rfl rfl) ?_
    refine o_nil ?_
    refine a_false rfl ((by decide)) ?_
    refine a_skip ?_
    refine a_seq ?_
    refine a_ghostM 13 12 0 rfl rfl rfl rfl rfl fun mv => ?_
    refine a_toRaw 7 13 0 (.inl rfl) rfl ?_
    refine a_region ?_
    refine Pstep.go (st_move rfl rfl) ?_
    refine Pstep.go (st_move rfl rfl) ?_
    refine Estep.go (st_callD (hbk mv) rfl [10, 11, 12, 13] ⟨rfl, rfl, rfl, rfl, trivial⟩ rfl rfl rfl rfl rfl rfl rfl rfl rfl) ?_
    refine Pstep.go (st_lenMap rfl Tryz.underlying39 rfl) ?_
    refine Pstep.go (st_eql rfl rfl rfl) ?_
    refine Pstep.go (st_move rfl rfl) ?_
    refine o_splitP 24 rfl (fun h24 => ?_) (fun h24 => ?_)
    · refine o_run rfl rfl rfl ?_
      refine Pstep.go (st_move rfl rfl) ?_
      refine o_run rfl rfl rfl ?_
      refine Pstep.go (st_move rfl rfl) ?_
      refine o_run rfl rfl rfl ?_
      refine Estep.go (st_callD (hvk mv) rfl [10, 11, 12, 13] ⟨rfl, rfl, rfl, rfl, trivial⟩ rfl rfl rfl rfl rfl rfl rfl rfl rfl) ?_
      refine o_run rfl rfl rfl ?_
      refine Pstep.go (st_lenMap rfl Tryz.underlying56 rfl) ?_
      refine o_run rfl rfl rfl ?_
      refine Pstep.go (st_eql rfl rfl rfl) ?_
      refine Pstep.go (st_pickT rfl rfl rfl rfl) ?_
      refine Pstep.go (st_assign rfl rfl) ?_
      refine Pstep.go (st_assign rfl rfl) ?_
      refine o_nil ?_
      refine a_ret ?_
      exact ⟨_, [], [], res_of rfl, rfl, rfl, retT2 (by first | (rw [Bool.eq_iff_iff]; simp_all [List.length_eq_zero_iff]; done) | (rw [Bool.eq_iff_iff]; simp_all)), rfl⟩
    · refine o_pass rfl rfl rfl rfl ?_
      refine o_pass rfl rfl rfl rfl ?_
      refine o_pass rfl rfl rfl rfl ?_
      refine o_pass rfl rfl rfl rfl ?_
      refine o_pass rfl rfl rfl rfl ?_
      refine Pstep.go (st_pickF rfl rfl rfl rfl) ?_
      refine Pstep.go (st_assign rfl rfl) ?_
      refine Pstep.go (st_assign rfl rfl) ?_
      refine o_nil ?_
      refine a_ret ?_
      exact ⟨_, [], [], res_of rfl, rfl, rfl, retT2 (by first | (rw [Bool.eq_iff_iff]; simp_all [List.length_eq_zero_iff]; done) | (rw [Bool.eq_iff_iff]; simp_all)), rfl⟩
  · have hpr := prepare_bad p l hb (by omega) hE
    refine a_enter Tryz.func17 rfl rfl Tryz.ntmps17 rfl rfl rfl fun F hF => ?_
    refine a_seq ?_
    refine a_region ?_
    refine Estep.go (st_box 1 rfl rfl rfl rfl rfl rfl rfl) ?_
    refine Pstep.go (st_assign rfl rfl) ?_
    refine Pstep.go (st_assign rfl rfl) ?_
    refine o_nil ?_
    refine a_seq ?_
    refine a_region ?_
    refine Pstep.go (st_loadPS rfl rfl rw35 rfl rfl rfl) ?_
    refine Pstep.go (st_move rfl rfl) ?_
    refine Pstep.go (st_callP (hpr) rfl rfl) ?_
    refine Pstep.go (st_move rfl rfl) ?_
    refine Pstep.go (st_extractD rfl rfl rfl) ?_
    refine Pstep.go (st_extractD rfl rfl rfl) ?_
    refine Pstep.go (st_extractD rfl rfl rfl) ?_
    refine Pstep.go (st_assign rfl rfl) ?_
    refine Pstep.go (st_assign rfl rfl) ?_
    refine Pstep.go (st_assign rfl rfl) ?_
    refine o_nil ?_
    refine a_seq ?_
    refine a_seq ?_
    refine a_region ?_
    refine Pstep.go (st_move rfl rfl) ?_
    refine Pstep.go (st_neq rfl rfl rfl) ?_
    refine o_nil ?_
    refine a_true rfl ((decide_eq_true hE)) ?_
    refine a_seq ?_
    refine a_region ?_
    refine Pstep.go (st_move rfl rfl) ?_
    refine Pstep.go (st_assign rfl rfl) ?_
    refine Pstep.go (st_assign rfl rfl) ?_
    refine o_nil ?_
    refine a_ret ?_
    exact ⟨_, [], [], res_of rfl, rfl, rfl, by rw [decide_eq_false (fun h => hE h.1)], rfl⟩
end Go.Proofs.YtnamabifclidmaaGreat
/- Layer 29: the reference. -/
namespace Go.Proofs.YtnamabifclidmaaGreat
open Go.RowKit

set_option maxRecDepth 100000 in
theorem in29_p (l : List Int) (x : Int) (hn : l.length ≤ 140737488355328) : PCalls Tryz.prog 33 [.d (.sl none (l.map intD)), .d (intD x)] (.raw (.bool (decide (x ∈ l)))) := by
  refine a_enter Tryz.func33 rfl rfl Tryz.ntmps33 rfl rfl rfl fun F hF => ?_
  refine a_seq ?_
  refine a_region ?_
  refine Pstep.go (st_assign rfl rfl) ?_
  refine o_nil ?_
  refine a_seq ?_
  refine a_seq ?_
  refine a_region ?_
  refine Pstep.go (st_assign rfl rfl) ?_
  refine o_nil ?_
  refine a_block ?_
  refine a_loop (α := Nat) (fun k => ⟨18, [(0, .d (.sl none (l.map intD))), (1, .d (intD x)), (5, (.d (intD (k : Int))))], []⟩) (fun k => k ≤ l.length ∧ x ∉ l.take k) (fun k => l.length - k) (0) (⟨Nat.zero_le _, by simp⟩) (le_of_has ⟨rfl, rfl, rfl, trivial⟩) ?_
  rintro k ⟨hk0, hk⟩
  refine a_seq ?_
  refine a_seq ?_
  refine a_region ?_
  refine Pstep.go (st_move rfl rfl) ?_
  refine Pstep.go (st_move rfl rfl) ?_
  refine Pstep.go (st_lenMap rfl Tryz.underlying26 rfl) ?_
  refine Pstep.go (st_lss rfl rfl rfl) ?_
  refine o_nil ?_
  refine a_if rfl (fun h9 => ?_) (fun h9 => ?_)
  · have hk1 : k < l.length := lt_cast h9
    refine a_skip ?_
    refine a_seq ?_
    refine a_block ?_
    refine a_seq ?_
    refine a_region ?_
    refine Pstep.go (st_move rfl rfl) ?_
    refine Pstep.go (st_move rfl rfl) ?_
    refine Pstep.go (st_indexD (k) rfl rfl (rfl) (getm hk1) Tryz.underlying26 rfl sz3 rfl) ?_
    refine Pstep.go (st_loadD1 rfl rfl on3 rfl) ?_
    refine Pstep.go (st_move rfl rfl) ?_
    refine Pstep.go (st_eql rfl rfl rfl) ?_
    refine o_nil ?_
    refine a_if rfl (fun h17 => ?_) (fun h17 => ?_)
    · refine a_seq ?_
      refine a_region ?_
      refine Pstep.go (st_assign rfl rfl) ?_
      refine o_nil ?_
      refine a_ret ?_
      exact ⟨_, [], [], res_of rfl, rfl, rfl, retT (by rw [← h17]; exact List.getElem_mem hk1), rfl⟩
    · refine a_skip ?_
      refine a_region ?_
      refine Pstep.go (st_move rfl rfl) ?_
      refine Pstep.go (st_add rfl rfl (wrapS (k + 1) (by omega)) rfl) ?_
      refine Pstep.go (st_assign rfl rfl) ?_
      refine o_nil ?_
      exact ⟨k + 1, ⟨by show k + 1 ≤ _; omega, not_mem_take_succ hk1 hk (fun e => h17 e.symm)⟩, by show l.length - (k + 1) < l.length - k; omega, ⟨rfl, rfl, fun _ _ => Has.get (l := [(0, _), (1, _), (5, _)]) ⟨rfl, rfl, rfl, trivial⟩⟩⟩
  · refine a_exit ?_
    refine a_seq ?_
    refine a_region ?_
    refine Pstep.go (st_assign rfl rfl) ?_
    refine o_nil ?_
    refine a_ret ?_
    exact ⟨_, [], [], res_of rfl, rfl, rfl, retF (mem_of_take (by have h := h9; omega) hk), rfl⟩
theorem PC.le {γ : Type} {c : γ → γ → Int} (h : PC c) {x y z : γ} (h1 : c x y ≤ 0) (h2 : c y z ≤ 0) : c x z ≤ 0 := by
  by_cases e1 : c x y = 0
  · rw [h.eqv x y z e1]; exact h2
  · by_cases e2 : c y z = 0
    · have a1 := h.anti y z
      have e3 : c z y = 0 := by omega
      have a2 := h.eqv z y x e3
      have a3 := h.anti z x
      have a4 := h.anti y x
      omega
    · have := h.trans x y z (by omega) (by omega); omega
/-- One element put in its place. -/
theorem ins_sorted {γ : Type} {c : γ → γ → Int} (h : PC c) {acc : List γ} {m : Nat} {x : γ} (hs : acc.Pairwise fun a b => ¬ c b a < 0) (h1 : ∀ y ∈ acc.take m, c y x < 0) (h2 : ∀ y, acc[m]? = some y → ¬ c y x < 0) : ((acc.take m ++ [x]) ++ acc.drop m).Pairwise fun a b => ¬ c b a < 0 := by
  have hd : ∀ y ∈ acc.drop m, ¬ c y x < 0 := fun y hy => by
    cases hm : acc[m]? with
    | none =>
      rw [List.drop_of_length_le (List.getElem?_eq_none_iff.1 hm)] at hy; cases hy
    | some z =>
      obtain ⟨hlt, hz⟩ := List.getElem?_eq_some_iff.1 hm
      rw [List.drop_eq_getElem_cons hlt] at hy
      have hz2 := h2 z hm
      rcases List.mem_cons.1 hy with hy | hy
      · rw [hy, hz]; exact hz2
      · have hp : (acc.drop m).Pairwise fun a b => ¬ c b a < 0 := hs.sublist (List.drop_sublist _ _)
        rw [List.drop_eq_getElem_cons hlt, List.pairwise_cons] at hp
        have h3 := hp.1 y hy
        rw [hz] at h3
        have a1 := h.anti z x; have a2 := h.anti y z; have a3 := h.anti y x
        have := h.le (x := x) (y := z) (z := y) (by omega) (by omega)
        omega
  rw [List.pairwise_append]
  refine ⟨?_, hs.sublist (List.drop_sublist _ _), fun a ha b hb => ?_⟩
  · rw [List.pairwise_append]
    refine ⟨hs.sublist (List.take_sublist _ _), List.pairwise_singleton _ _, fun a ha b hb => ?_⟩
    rw [List.mem_singleton.1 hb]
    have := h1 a ha; have a1 := h.anti a x; omega
  · rcases List.mem_append.1 ha with ha | ha
    · have h3 := h1 a ha
      have h4 := hd b hb
      have a1 := h.anti a b; have a2 := h.anti b x
      have := h.le (x := a) (y := x) (z := b) (by omega) (by omega)
      omega
    · rw [List.mem_singleton.1 ha]; exact hd b hb
theorem ins_perm {γ : Type} {acc : List γ} {m : Nat} {x : γ} : ((acc.take m ++ [x]) ++ acc.drop m).Perm (acc ++ [x]) := by
  have h : (acc.take m ++ (x :: acc.drop m)).Perm (x :: (acc.take m ++ acc.drop m)) := List.perm_middle
  rw [List.take_append_drop] at h
  rw [List.append_assoc]
  exact h.trans (List.perm_append_singleton x acc).symm
theorem cmpI_ge {a b : Int} : ¬ cmpI b a < 0 ↔ a ≤ b := by unfold cmpI; split <;> (try split) <;> omega
theorem cmpI_lt {a b : Int} : cmpI a b < 0 ↔ a < b := by unfold cmpI; split <;> (try split) <;> omega
theorem sort_one {l ys : List Int} (h1 : ys.Perm l) (h2 : ys.Pairwise fun a b => ¬ cmpI b a < 0) : ys = sortI l :=
  List.Perm.eq_of_pairwise (le := fun a b : Int => a ≤ b) (fun a b _ _ g1 g2 => by omega) (h2.imp fun h => cmpI_ge.1 h) (sortI_sorted l) (h1.trans (sortI_perm l).symm)
set_option maxRecDepth 100000 in
set_option maxHeartbeats 1000000 in
theorem sort29_p (l : List Int) (hl : l.length ≤ 100000) : PCalls Tryz.prog 40 [.d (.sl none (l.map intD))] (.sl none ((sortI l).map intD)) := by
  refine a_enter Tryz.func40 rfl rfl Tryz.ntmps40 rfl rfl rfl fun F hF => ?_
  refine a_seq ?_
  refine a_region ?_
  refine Pstep.go (st_assign rfl rfl) ?_
  refine o_nil ?_
  refine a_seq ?_
  refine a_region ?_
  refine Pstep.go (st_assign rfl rfl) ?_
  refine o_nil ?_
  refine a_seq ?_
  refine a_seq ?_
  refine a_anyNil 3 rfl ?_
  refine a_region ?_
  refine Pstep.go (st_assign rfl rfl) ?_
  refine o_nil ?_
  refine a_block ?_
  refine a_loopP (α := Nat × List Int) (fun q => ⟨45, [(0, .d (.sl none (l.map intD))), (3, (.d (.sl none (q.2.map intD)))), (4, (.d (intD (q.1 : Int))))], []⟩) (fun q => q.1 ≤ l.length ∧ q.2.Perm (l.take q.1) ∧ q.2.Pairwise fun a b => ¬ cmpI b a < 0) (fun q => l.length - q.1) ((0, [])) (⟨Nat.zero_le _, by simp, List.Pairwise.nil⟩) (lep_of hF [] rfl rfl ⟨rfl, rfl, rfl, trivial⟩) ?_
  rintro ⟨k, acc⟩ ⟨hk0, hP, hS⟩
  dsimp only at hk0 hP hS ⊢
  refine a_seq ?_
  refine a_seq ?_
  refine a_region ?_
  refine Pstep.go (st_move rfl rfl) ?_
  refine Pstep.go (st_move rfl rfl) ?_
  refine Pstep.go (st_lenMap rfl Tryz.underlying26 rfl) ?_
  refine Pstep.go (st_lss rfl rfl rfl) ?_
  refine o_nil ?_
  refine a_if rfl (fun h9 => ?_) (fun h9 => ?_)
  · have hk1 : k < l.length := lt_cast h9
    refine a_skip ?_
    refine a_seq ?_
    refine a_block ?_
    refine a_seq ?_
    have hal : acc.length ≤ 100000 := by rw [hP.length_eq, List.length_take]; omega
    refine a_region ?_
    refine Pstep.go (st_assign rfl rfl) ?_
    refine o_nil ?_
    refine a_seq ?_
    refine a_block ?_
    refine a_loopP (α := Nat) (fun m => ⟨45, [(0, .d (.sl none (l.map intD))), (3, (.d (.sl none (acc.map intD)))), (4, (.d (intD (k : Int)))), (5, (.d (intD (m : Int))))], []⟩) (fun m => m ≤ acc.length ∧ ∀ y ∈ acc.take m, cmpI y l[k] < 0) (fun m => acc.length - m) (0) (⟨Nat.zero_le _, by simp⟩) (lep_of hF [] rfl rfl ⟨rfl, rfl, rfl, rfl, trivial⟩) ?_
    rintro m ⟨hm0, hm⟩
    refine a_seq ?_
    refine a_seq ?_
    refine a_drawn [[], [], [1], [0, 1, 2], [0, 1, 2, 3], [0, 1, 2, 3, 4], [0, 1, 2, 3, 4], [0, 1, 2, 3, 4, 5, 6], [0, 1, 2, 3, 4, 5, 6, 7], [0, 1, 2, 3, 4], [0, 1, 2, 3, 4], [0, 1, 2, 3, 4, 9, 10], [0, 1, 2, 3, 4, 9, 10, 11], [0, 1, 2, 3, 4, 5, 6, 7, 8, 9, 10, 11, 12], [0, 1, 2, 3, 4, 5, 6, 7, 8, 9, 10, 11, 12, 13]] mixed rfl ?_
    refine dws ?_
    refine d_pure [5] [] rfl rfl (fun _ => gp_none (st_move rfl rfl)) ?_
    refine d_pure [3] [] rfl rfl (fun _ => gp_none (st_move rfl rfl)) ?_
    refine d_pure [13] [] rfl rfl (fun _ => gp_none (st_lenMap rfl Tryz.underlying26 rfl)) ?_
    refine dwc 3 rfl rfl rfl ?_
    refine dw1 4 rfl rfl ?_
    refine Pstep.go (st_lss rfl rfl rfl) ?_
    refine o_nil ⟨rfl, ?_⟩
    refine dw1 5 rfl rfl ?_
    refine Pstep.go (st_move rfl rfl) ?_
    refine o_splitP 16 rfl (fun h16 => ?_) (fun h16 => ?_)
    · refine o_nil ⟨rfl, ?_⟩
      refine dws ?_
      try have hm1 : m < acc.length := lt_cast h16
      refine d_pure [3, 16] [] rfl rfl (fun _ => gp_run rfl rfl rfl (st_move rfl rfl)) ?_
      refine d_pure [5, 16] [] rfl rfl (fun _ => gp_run rfl rfl rfl (st_move rfl rfl)) ?_
      refine d_pure [17, 18, 16] [] rfl rfl (fun _ => gp_run rfl rfl rfl (st_indexD (m) rfl rfl (rfl) (getm hm1) Tryz.underlying26 rfl sz3 rfl)) ?_
      refine d_pure [19, 16] [] rfl rfl (fun _ => gp_run rfl rfl rfl (st_loadD1 rfl rfl on3 rfl)) ?_
      refine d_pure [0, 16] [] rfl rfl (fun _ => gp_run rfl rfl rfl (st_move rfl rfl)) ?_
      refine d_pure [4, 16] [] rfl rfl (fun _ => gp_run rfl rfl rfl (st_move rfl rfl)) ?_
      refine d_pure [21, 22, 16] [] rfl rfl (fun _ => gp_run rfl rfl rfl (st_indexD (k) rfl rfl (rfl) (getm hk1) Tryz.underlying26 rfl sz3 rfl)) ?_
      refine d_pure [23, 16] [] rfl rfl (fun _ => gp_run rfl rfl rfl (st_loadD1 rfl rfl on3 rfl)) ?_
      refine dwc 13 rfl rfl rfl ?_
      refine dw1 14 rfl rfl ?_
      refine o_run rfl rfl rfl ?_
      refine Pstep.go (st_lss rfl rfl rfl) ?_
      refine o_nil ⟨rfl, ?_⟩
      refine dw1 15 rfl rfl ?_
      refine Pstep.go (st_pickT rfl rfl rfl rfl) ?_
      refine o_nil ⟨rfl, ?_⟩
      refine dwe ?_
      refine a_if rfl (fun h26 => ?_) (fun h26 => ?_)
      · refine a_skip ?_
        refine a_block ?_
        refine a_region ?_
        refine Pstep.go (st_move rfl rfl) ?_
        refine Pstep.go (st_add rfl rfl (wrapS (m + 1) (by omega)) rfl) ?_
        refine Pstep.go (st_assign rfl rfl) ?_
        refine o_nil ?_
        exact ⟨m + 1, ⟨by show m + 1 ≤ _; omega, by rw [List.take_succ_eq_append_getElem hm1]; intro y hy; rcases List.mem_append.1 hy with hy | hy; exact hm y hy; rw [List.mem_singleton.1 hy]; exact cmpI_lt.2 h26⟩, by show acc.length - (m + 1) < acc.length - m; omega, lep_of hF [] rfl (rfl) ⟨rfl, rfl, rfl, rfl, trivial⟩⟩
      · refine a_exit ?_
        have hstop : ∀ y, acc[m]? = some y → ¬ cmpI y l[k] < 0 := by first | (intro y hy; have h3 := (List.getElem?_eq_some_iff.1 hy).1; exact absurd h3 (by have h := h16; omega)) | (intro y hy; rw [List.getElem?_eq_getElem hm1] at hy; injection hy with hy; rw [← hy]; intro h3; exact h26 (cmpI_lt.1 h3))
        refine a_drawn [[], [], [], [1, 2], [0, 1, 2, 3], [], [], [5, 6], [5, 6, 7], [5, 6, 7, 8], [0, 1, 2, 3, 4, 5, 6, 7, 8, 9], [], [], [11, 12], [0, 1, 2, 3, 4, 5, 6, 7, 8, 9, 10, 11, 12, 13], [0, 1, 2, 3, 4, 5, 6, 7, 8, 9, 10, 11, 12, 13, 14]] mixed rfl ?_
        refine dws ?_
        refine d_eff [] [20] [(29, _)] rfl rfl (fun _ => ge_none (st_buildSlice 20 sl26 rfl rfl rfl rfl rfl rfl rfl rfl)) (.inr ⟨29, _, rfl, rfl, rfl, rfl, rfl⟩) rfl rfl rfl rfl rfl ?_
        refine d_pure [3] [] rfl rfl (fun _ => gp_none (st_move rfl rfl)) ?_
        refine d_pure [5] [] rfl rfl (fun _ => gp_none (st_move rfl rfl)) ?_
        refine d_pure [30, 31] [] rfl rfl (fun _ => gp_none (st_sliceHiM (acc) (m) rfl rfl rfl (rfl) (by omega) Tryz.underlying26 sz3 (fun _ => rfl) rfl)) ?_
        refine d_eff [29, 32] [20] [(33, _)] rfl rfl (fun _ => ge_none (st_appMD (([] : List Int)) (acc.take m) rfl rfl rfl rfl rfl rfl (fun _ => rfl) sl26 (by simp only [List.length_nil, List.length_take]; omega) rfl rfl rfl rfl)) (.inr ⟨33, _, rfl, rfl, rfl, rfl, rfl⟩) rfl rfl rfl rfl rfl ?_
        refine d_pure [0] [] rfl rfl (fun _ => gp_none (st_move rfl rfl)) ?_
        refine d_pure [4] [] rfl rfl (fun _ => gp_none (st_move rfl rfl)) ?_
        refine d_pure [34, 35] [] rfl rfl (fun _ => gp_none (st_indexD (k) rfl rfl (rfl) (getm hk1) Tryz.underlying26 rfl sz3 rfl)) ?_
        refine d_pure [36] [] rfl rfl (fun _ => gp_none (st_loadD1 rfl rfl on3 rfl)) ?_
        refine d_eff [37] [21] [(38, _)] rfl rfl (fun _ => ge_none (st_buildSlice 21 sl26 rfl rfl rfl rfl rfl rfl rfl rfl)) (.inr ⟨38, _, rfl, rfl, rfl, rfl, rfl⟩) rfl rfl rfl rfl rfl ?_
        refine d_effX [29] [33, 38] [20, 21] [(39, _)] rfl rfl (fun _ => ge_none (st_appM (([] ++ acc.take m)) ([l[k]]) rfl rfl rfl rfl rfl rfl rfl rfl sl26 (by simp only [List.nil_append, List.length_singleton, List.length_take]; omega) rfl rfl rfl rfl)) (.inr ⟨39, _, rfl, rfl, rfl, rfl, rfl⟩) rfl rfl rfl rfl rfl ?_
        refine d_pure [3] [] rfl rfl (fun _ => gp_none (st_move rfl rfl)) ?_
        refine d_pure [5] [] rfl rfl (fun _ => gp_none (st_move rfl rfl)) ?_
        refine d_pure [40, 41] [] rfl rfl (fun _ => gp_none (st_sliceLoM (acc) (m) rfl rfl rfl (rfl) (by omega) Tryz.underlying26 sz3 (fun _ => rfl) rfl)) ?_
        refine dwc 14 rfl rfl rfl ?_
        refine dw1 15 rfl rfl ?_
        refine Estep.go (st_appMD ((([] ++ acc.take m) ++ [l[k]])) (acc.drop m) rfl rfl rfl rfl rfl rfl (fun _ => rfl) sl26 (by simp only [List.nil_append, List.length_append, List.length_singleton, List.length_take, List.length_drop]; omega) rfl rfl rfl rfl) ?_
        refine o_nil ⟨rfl, ?_⟩
        refine dw1 16 rfl rfl ?_
        refine Pstep.go (st_assign rfl rfl) ?_
        refine o_nil ⟨rfl, ?_⟩
        refine dwe ?_
        refine a_freezeM (emb := intD) 3 20 ((([] ++ acc.take m) ++ [l[k]]) ++ acc.drop m) rfl rfl rfl rfl rfl rfl rfl ?_
        refine a_region ?_
        refine Pstep.go (st_move rfl rfl) ?_
        refine Pstep.go (st_add rfl rfl (wrapS (k + 1) (by omega)) rfl) ?_
        refine Pstep.go (st_assign rfl rfl) ?_
        refine o_nil ?_
        exact ⟨(k + 1, _), ⟨by show k + 1 ≤ _; omega, by show (((([] ++ acc.take m) ++ [l[k]]) ++ acc.drop m) : List Int).Perm (l.take (k + 1)); rw [List.take_succ_eq_append_getElem hk1, List.nil_append]; exact ins_perm.trans (hP.append_right _), by show (((([] ++ acc.take m) ++ [l[k]]) ++ acc.drop m) : List Int).Pairwise _; rw [List.nil_append]; exact ins_sorted cmpI_pc hS hm hstop⟩, by show l.length - (k + 1) < l.length - k; omega, lep_of hF [] rfl (rfl) ⟨rfl, rfl, rfl, trivial⟩⟩
    · refine o_nil ⟨rfl, ?_⟩
      refine dws ?_
      try have hm1 : m < acc.length := lt_cast h16
      refine d_pure [3, 16] [] rfl rfl (fun _ => gp_pass rfl rfl rfl rfl) ?_
      refine d_pure [5, 16] [] rfl rfl (fun _ => gp_pass rfl rfl rfl rfl) ?_
      refine d_pure [17, 18, 16] [] rfl rfl (fun _ => gp_pass rfl rfl rfl rfl) ?_
      refine d_pure [19, 16] [] rfl rfl (fun _ => gp_pass rfl rfl rfl rfl) ?_
      refine d_pure [0, 16] [] rfl rfl (fun _ => gp_pass rfl rfl rfl rfl) ?_
      refine d_pure [4, 16] [] rfl rfl (fun _ => gp_pass rfl rfl rfl rfl) ?_
      refine d_pure [21, 22, 16] [] rfl rfl (fun _ => gp_pass rfl rfl rfl rfl) ?_
      refine d_pure [23, 16] [] rfl rfl (fun _ => gp_pass rfl rfl rfl rfl) ?_
      refine dwc 13 rfl rfl rfl ?_
      refine dw1 14 rfl rfl ?_
      refine o_pass rfl rfl rfl rfl ?_
      refine o_nil ⟨rfl, ?_⟩
      refine dw1 15 rfl rfl ?_
      refine Pstep.go (st_pickF rfl rfl rfl rfl) ?_
      refine o_nil ⟨rfl, ?_⟩
      refine dwe ?_
      refine a_false rfl rfl ?_
      refine a_exit ?_
      have hstop : ∀ y, acc[m]? = some y → ¬ cmpI y l[k] < 0 := by first | (intro y hy; have h3 := (List.getElem?_eq_some_iff.1 hy).1; exact absurd h3 (by have h := h16; omega)) | (intro y hy; rw [List.getElem?_eq_getElem hm1] at hy; injection hy with hy; rw [← hy]; intro h3; exact h26 (cmpI_lt.1 h3))
      refine a_drawn [[], [], [], [1, 2], [0, 1, 2, 3], [], [], [5, 6], [5, 6, 7], [5, 6, 7, 8], [0, 1, 2, 3, 4, 5, 6, 7, 8, 9], [], [], [11, 12], [0, 1, 2, 3, 4, 5, 6, 7, 8, 9, 10, 11, 12, 13], [0, 1, 2, 3, 4, 5, 6, 7, 8, 9, 10, 11, 12, 13, 14]] mixed rfl ?_
      refine dws ?_
      refine d_eff [] [20] [(29, _)] rfl rfl (fun _ => ge_none (st_buildSlice 20 sl26 rfl rfl rfl rfl rfl rfl rfl rfl)) (.inr ⟨29, _, rfl, rfl, rfl, rfl, rfl⟩) rfl rfl rfl rfl rfl ?_
      refine d_pure [3] [] rfl rfl (fun _ => gp_none (st_move rfl rfl)) ?_
      refine d_pure [5] [] rfl rfl (fun _ => gp_none (st_move rfl rfl)) ?_
      refine d_pure [30, 31] [] rfl rfl (fun _ => gp_none (st_sliceHiM (acc) (m) rfl rfl rfl (rfl) (by omega) Tryz.underlying26 sz3 (fun _ => rfl) rfl)) ?_
      refine d_eff [29, 32] [20] [(33, _)] rfl rfl (fun _ => ge_none (st_appMD (([] : List Int)) (acc.take m) rfl rfl rfl rfl rfl rfl (fun _ => rfl) sl26 (by simp only [List.length_nil, List.length_take]; omega) rfl rfl rfl rfl)) (.inr ⟨33, _, rfl, rfl, rfl, rfl, rfl⟩) rfl rfl rfl rfl rfl ?_
      refine d_pure [0] [] rfl rfl (fun _ => gp_none (st_move rfl rfl)) ?_
      refine d_pure [4] [] rfl rfl (fun _ => gp_none (st_move rfl rfl)) ?_
      refine d_pure [34, 35] [] rfl rfl (fun _ => gp_none (st_indexD (k) rfl rfl (rfl) (getm hk1) Tryz.underlying26 rfl sz3 rfl)) ?_
      refine d_pure [36] [] rfl rfl (fun _ => gp_none (st_loadD1 rfl rfl on3 rfl)) ?_
      refine d_eff [37] [21] [(38, _)] rfl rfl (fun _ => ge_none (st_buildSlice 21 sl26 rfl rfl rfl rfl rfl rfl rfl rfl)) (.inr ⟨38, _, rfl, rfl, rfl, rfl, rfl⟩) rfl rfl rfl rfl rfl ?_
      refine d_effX [29] [33, 38] [20, 21] [(39, _)] rfl rfl (fun _ => ge_none (st_appM (([] ++ acc.take m)) ([l[k]]) rfl rfl rfl rfl rfl rfl rfl rfl sl26 (by simp only [List.nil_append, List.length_singleton, List.length_take]; omega) rfl rfl rfl rfl)) (.inr ⟨39, _, rfl, rfl, rfl, rfl, rfl⟩) rfl rfl rfl rfl rfl ?_
      refine d_pure [3] [] rfl rfl (fun _ => gp_none (st_move rfl rfl)) ?_
      refine d_pure [5] [] rfl rfl (fun _ => gp_none (st_move rfl rfl)) ?_
      refine d_pure [40, 41] [] rfl rfl (fun _ => gp_none (st_sliceLoM (acc) (m) rfl rfl rfl (rfl) (by omega) Tryz.underlying26 sz3 (fun _ => rfl) rfl)) ?_
      refine dwc 14 rfl rfl rfl ?_
      refine dw1 15 rfl rfl ?_
      refine Estep.go (st_appMD ((([] ++ acc.take m) ++ [l[k]])) (acc.drop m) rfl rfl rfl rfl rfl rfl (fun _ => rfl) sl26 (by simp only [List.nil_append, List.length_append, List.length_singleton, List.length_take, List.length_drop]; omega) rfl rfl rfl rfl) ?_
      refine o_nil ⟨rfl, ?_⟩
      refine dw1 16 rfl rfl ?_
      refine Pstep.go (st_assign rfl rfl) ?_
      refine o_nil ⟨rfl, ?_⟩
      refine dwe ?_
      refine a_freezeM (emb := intD) 3 20 ((([] ++ acc.take m) ++ [l[k]]) ++ acc.drop m) rfl rfl rfl rfl rfl rfl rfl ?_
      refine a_region ?_
      refine Pstep.go (st_move rfl rfl) ?_
      refine Pstep.go (st_add rfl rfl (wrapS (k + 1) (by omega)) rfl) ?_
      refine Pstep.go (st_assign rfl rfl) ?_
      refine o_nil ?_
      exact ⟨(k + 1, _), ⟨by show k + 1 ≤ _; omega, by show (((([] ++ acc.take m) ++ [l[k]]) ++ acc.drop m) : List Int).Perm (l.take (k + 1)); rw [List.take_succ_eq_append_getElem hk1, List.nil_append]; exact ins_perm.trans (hP.append_right _), by show (((([] ++ acc.take m) ++ [l[k]]) ++ acc.drop m) : List Int).Pairwise _; rw [List.nil_append]; exact ins_sorted cmpI_pc hS hm hstop⟩, by show l.length - (k + 1) < l.length - k; omega, lep_of hF [] rfl (rfl) ⟨rfl, rfl, rfl, trivial⟩⟩
  · refine a_exit ?_
    refine a_seq ?_
    refine a_region ?_
    refine Pstep.go (st_move rfl rfl) ?_
    refine Pstep.go (st_assign rfl rfl) ?_
    refine o_nil ?_
    refine a_ret ?_
    exact ⟨_, [], [], res_of rfl, rfl, rfl, by rw [sort_one (l := l) (by have h4 := hP; rw [List.take_of_length_le (by have h := h9; omega)] at h4; exact h4) hS], rfl⟩
end Go.Proofs.YtnamabifclidmaaGreat
/- Layer 29: the reference, continued. -/
namespace Go.Proofs.YtnamabifclidmaaGreat
open Go.RowKit

theorem cmpRoo_pc : PC fun a b : Roo => cmpR a.r b.r := cmpR_pc.comap Roo.r
theorem linR_one {p : Prb} (hp : prbE p = 0) {ys : List Roo} (h1 : ys.Perm p.ro) (h2 : ys.Pairwise fun a b => ¬ cmpR b.r a.r < 0) : ys = linR p.ro :=
  rsc_one Roo.r (rooms_nodup (prb_ok hp).1) (linR_perm p.ro) (linR_sorted p.ro) h1 h2
set_option maxRecDepth 100000 in
set_option maxHeartbeats 1000000 in
theorem rooms29_p (p : Prb) (hp : prbE p = 0) (hl : p.ro.length ≤ 100000) : PCalls Tryz.prog 51 [.d (prbD p)] (.sl none ((linR p.ro).map rooD)) := by
  refine a_enter Tryz.func51 rfl rfl Tryz.ntmps51 rfl rfl rfl fun F hF => ?_
  refine a_seq ?_
  refine a_region ?_
  refine Estep.go (st_box 1 rfl rfl rfl rfl rfl rfl rfl) ?_
  refine Pstep.go (st_assign rfl rfl) ?_
  refine o_nil ?_
  refine a_seq ?_
  refine a_region ?_
  refine Pstep.go (st_assign rfl rfl) ?_
  refine o_nil ?_
  refine a_seq ?_
  refine a_seq ?_
  refine a_anyNil 3 rfl ?_
  refine a_region ?_
  refine Pstep.go (st_assign rfl rfl) ?_
  refine o_nil ?_
  refine a_block ?_
  refine a_loopP (α := Nat × List Roo) (fun q => ⟨51, [(1, (.ptr 1 0 0)), (3, (.d (.sl none (q.2.map rooD)))), (4, (.d (intD (q.1 : Int))))], [(1, [prbB2 25 p])]⟩) (fun q => q.1 ≤ p.ro.length ∧ q.2.Perm (p.ro.take q.1) ∧ q.2.Pairwise fun a b => ¬ cmpR b.r a.r < 0) (fun q => p.ro.length - q.1) ((0, [])) (⟨Nat.zero_le _, by simp, List.Pairwise.nil⟩) (lep_of hF [1] rfl rfl ⟨rfl, rfl, rfl, trivial⟩) ?_
  rintro ⟨k, acc⟩ ⟨hk0, hP, hS⟩
  dsimp only at hk0 hP hS ⊢
  refine a_seq ?_
  refine a_seq ?_
  refine a_region ?_
  refine Pstep.go (st_move rfl rfl) ?_
  refine Pstep.go (st_fieldP rfl fi25_0 rfl rfl rfl) ?_
  refine Pstep.go (st_loadP rfl rfl rfl on22 rfl) ?_
  refine Pstep.go (st_lenMap rfl Tryz.underlying22 rfl) ?_
  refine Pstep.go (st_lss rfl rfl rfl) ?_
  refine o_nil ?_
  refine a_if rfl (fun h10 => ?_) (fun h10 => ?_)
  · have hk1 : k < p.ro.length := lt_cast h10
    refine a_skip ?_
    refine a_seq ?_
    refine a_block ?_
    refine a_seq ?_
    have hal : acc.length ≤ 100000 := by rw [hP.length_eq, List.length_take]; omega
    refine a_region ?_
    refine Pstep.go (st_assign rfl rfl) ?_
    refine o_nil ?_
    refine a_seq ?_
    refine a_block ?_
    refine a_loopP (α := Nat) (fun m => ⟨51, [(1, (.ptr 1 0 0)), (3, (.d (.sl none (acc.map rooD)))), (4, (.d (intD (k : Int)))), (5, (.d (intD (m : Int))))], [(1, [prbB2 25 p])]⟩) (fun m => m ≤ acc.length ∧ ∀ y ∈ acc.take m, cmpR y.r p.ro[k].r < 0) (fun m => acc.length - m) (0) (⟨Nat.zero_le _, by simp⟩) (lep_of hF [1] rfl rfl ⟨rfl, rfl, rfl, rfl, trivial⟩) ?_
    rintro m ⟨hm0, hm⟩
    refine a_seq ?_
    refine a_seq ?_
    refine a_drawn [[], [], [1], [0, 1, 2], [0, 1, 2, 3], [0, 1, 2, 3, 4], [0, 1, 2, 3, 4], [0, 1, 2, 3, 4, 5, 6], [0, 1, 2, 3, 4, 5, 6, 7], [0, 1, 2, 3, 4, 5, 6, 7, 8], [0, 1, 2, 3, 4], [0, 1, 2, 3, 4, 10], [0, 1, 2, 3, 4], [0, 1, 2, 3, 4, 10, 11, 12], [0, 1, 2, 3, 4, 10, 11, 12, 13], [0, 1, 2, 3, 4, 10, 11, 12, 13, 14], [0, 1, 2, 3, 4, 5, 6, 7, 8, 9, 10, 11, 12, 13, 14, 15], [0, 1, 2, 3, 4, 5, 6, 7, 8, 9, 10, 11, 12, 13, 14, 15, 16], [0, 1, 2, 3, 4, 5, 6, 7, 8, 9, 10, 11, 12, 13, 14, 15, 16, 17]] mixed rfl ?_
    refine dws ?_
    refine d_pure [5] [] rfl rfl (fun _ => gp_none (st_move rfl rfl)) ?_
    refine d_pure [3] [] rfl rfl (fun _ => gp_none (st_move rfl rfl)) ?_
    refine d_pure [14] [] rfl rfl (fun _ => gp_none (st_lenMap rfl Tryz.underlying22 rfl)) ?_
    refine dwc 3 rfl rfl rfl ?_
    refine dw1 4 rfl rfl ?_
    refine Pstep.go (st_lss rfl rfl rfl) ?_
    refine o_nil ⟨rfl, ?_⟩
    refine dw1 5 rfl rfl ?_
    refine Pstep.go (st_move rfl rfl) ?_
    refine o_splitP 17 rfl (fun h17 => ?_) (fun h17 => ?_)
    · refine o_nil ⟨rfl, ?_⟩
      refine dws ?_
      try have hm1 : m < acc.length := lt_cast h17
      refine d_pure [3, 17] [] rfl rfl (fun _ => gp_run rfl rfl rfl (st_move rfl rfl)) ?_
      refine d_pure [5, 17] [] rfl rfl (fun _ => gp_run rfl rfl rfl (st_move rfl rfl)) ?_
      refine d_pure [18, 19, 17] [] rfl rfl (fun _ => gp_run rfl rfl rfl (st_indexD (m) rfl rfl (rfl) (getm hm1) Tryz.underlying22 rfl sz104 rfl)) ?_
      refine d_pure [20, 17] [] rfl rfl (fun _ => gp_run rfl rfl rfl (st_fieldFS rfl fi104_0 rfl rfl rfl)) ?_
      refine d_pure [21, 17] [] rfl rfl (fun _ => gp_run rfl rfl rfl (st_loadDS rfl rfl rw52 rfl)) ?_
      refine d_pure [1, 17] [] rfl rfl (fun _ => gp_run rfl rfl rfl (st_fieldP rfl fi25_0 rfl rfl rfl)) ?_
      refine d_pureA [23, 17] rfl rfl (fun _ => gp_run rfl rfl rfl (st_loadP rfl rfl rfl on22 rfl)) ?_
      refine d_pure [4, 17] [] rfl rfl (fun _ => gp_run rfl rfl rfl (st_move rfl rfl)) ?_
      refine d_pure [24, 25, 17] [] rfl rfl (fun _ => gp_run rfl rfl rfl (st_indexD (k) rfl rfl (rfl) (getm hk1) Tryz.underlying22 rfl sz104 rfl)) ?_
      refine d_pure [26, 17] [] rfl rfl (fun _ => gp_run rfl rfl rfl (st_fieldFS rfl fi104_0 rfl rfl rfl)) ?_
      refine d_pure [27, 17] [] rfl rfl (fun _ => gp_run rfl rfl rfl (st_loadDS rfl rfl rw52 rfl)) ?_
      refine dwc 16 rfl rfl rfl ?_
      refine dw1 17 rfl rfl ?_
      refine o_run rfl rfl rfl ?_
      refine Pstep.go (st_callP (refcompare_p acc[m].r p.ro[k].r) rfl rfl) ?_
      refine o_nil ⟨rfl, ?_⟩
      refine dw1 18 rfl rfl ?_
      refine o_run rfl rfl rfl ?_
      refine Pstep.go (st_lss rfl rfl rfl) ?_
      refine o_nil ⟨rfl, ?_⟩
      refine dw1 19 rfl rfl ?_
      refine Pstep.go (st_pickT rfl rfl rfl rfl) ?_
      refine o_nil ⟨rfl, ?_⟩
      refine dwe ?_
      refine a_if rfl (fun h31 => ?_) (fun h31 => ?_)
      · refine a_skip ?_
        refine a_block ?_
        refine a_region ?_
        refine Pstep.go (st_move rfl rfl) ?_
        refine Pstep.go (st_add rfl rfl (wrapS (m + 1) (by omega)) rfl) ?_
        refine Pstep.go (st_assign rfl rfl) ?_
        refine o_nil ?_
        exact ⟨m + 1, ⟨by show m + 1 ≤ _; omega, by rw [List.take_succ_eq_append_getElem hm1]; intro y hy; rcases List.mem_append.1 hy with hy | hy; exact hm y hy; rw [List.mem_singleton.1 hy]; exact h31⟩, by show acc.length - (m + 1) < acc.length - m; omega, lep_of hF [1] rfl (rfl) ⟨rfl, rfl, rfl, rfl, trivial⟩⟩
      · refine a_exit ?_
        have hstop : ∀ y, acc[m]? = some y → ¬ cmpR y.r p.ro[k].r < 0 := by first | (intro y hy; have h3 := (List.getElem?_eq_some_iff.1 hy).1; exact absurd h3 (by have h := h17; omega)) | (intro y hy; rw [List.getElem?_eq_getElem hm1] at hy; injection hy with hy; rw [← hy]; exact h31)
        refine a_drawn [[], [], [], [1, 2], [0, 1, 2, 3], [], [5], [], [5, 6, 7], [5, 6, 7, 8], [5, 6, 7, 8, 9], [0, 1, 2, 3, 4, 5, 6, 7, 8, 9, 10], [], [], [12, 13], [0, 1, 2, 3, 4, 5, 6, 7, 8, 9, 10, 11, 12, 13, 14], [0, 1, 2, 3, 4, 5, 6, 7, 8, 9, 10, 11, 12, 13, 14, 15]] mixed rfl ?_
        refine dws ?_
        refine d_eff [] [20] [(34, _)] rfl rfl (fun _ => ge_none (st_buildSlice 20 sl22 rfl rfl rfl rfl rfl rfl rfl rfl)) (.inr ⟨34, _, rfl, rfl, rfl, rfl, rfl⟩) rfl rfl rfl rfl rfl ?_
        refine d_pure [3] [] rfl rfl (fun _ => gp_none (st_move rfl rfl)) ?_
        refine d_pure [5] [] rfl rfl (fun _ => gp_none (st_move rfl rfl)) ?_
        refine d_pure [35, 36] [] rfl rfl (fun _ => gp_none (st_sliceHiM (acc) (m) rfl rfl rfl (rfl) (by omega) Tryz.underlying22 sz104 (fun _ => rfl) rfl)) ?_
        refine d_eff [34, 37] [20] [(38, _)] rfl rfl (fun _ => ge_none (st_appMD (([] : List Roo)) (acc.take m) rfl rfl rfl rfl rfl rfl (fun _ => rfl) sl22 (by simp only [List.length_nil, List.length_take]; omega) rfl rfl rfl rfl)) (.inr ⟨38, _, rfl, rfl, rfl, rfl, rfl⟩) rfl rfl rfl rfl rfl ?_
        refine d_pure [1] [] rfl rfl (fun _ => gp_none (st_fieldP rfl fi25_0 rfl rfl rfl)) ?_
        refine d_pure [39] [1] rfl rfl (fun _ => gp_none (st_loadP rfl rfl rfl on22 rfl)) ?_
        refine d_pure [4] [] rfl rfl (fun _ => gp_none (st_move rfl rfl)) ?_
        refine d_pure [40, 41] [] rfl rfl (fun _ => gp_none (st_indexD (k) rfl rfl (rfl) (getm hk1) Tryz.underlying22 rfl sz104 rfl)) ?_
        refine d_pure [42] [] rfl rfl (fun _ => gp_none (st_loadDS rfl rfl rw104 rfl)) ?_
        refine d_eff [43] [21] [(44, _)] rfl rfl (fun _ => ge_none (st_buildSlice 21 sl22 rfl rfl rfl rfl rfl rfl rfl rfl)) (.inr ⟨44, _, rfl, rfl, rfl, rfl, rfl⟩) rfl rfl rfl rfl rfl ?_
        refine d_effX [34] [38, 44] [20, 21] [(45, _)] rfl rfl (fun _ => ge_none (st_appM (([] ++ acc.take m)) ([p.ro[k]]) rfl rfl rfl rfl rfl rfl rfl rfl sl22 (by simp only [List.nil_append, List.length_singleton, List.length_take]; omega) rfl rfl rfl rfl)) (.inr ⟨45, _, rfl, rfl, rfl, rfl, rfl⟩) rfl rfl rfl rfl rfl ?_
        refine d_pure [3] [] rfl rfl (fun _ => gp_none (st_move rfl rfl)) ?_
        refine d_pure [5] [] rfl rfl (fun _ => gp_none (st_move rfl rfl)) ?_
        refine d_pure [46, 47] [] rfl rfl (fun _ => gp_none (st_sliceLoM (acc) (m) rfl rfl rfl (rfl) (by omega) Tryz.underlying22 sz104 (fun _ => rfl) rfl)) ?_
        refine dwc 15 rfl rfl rfl ?_
        refine dw1 16 rfl rfl ?_
        refine Estep.go (st_appMD ((([] ++ acc.take m) ++ [p.ro[k]])) (acc.drop m) rfl rfl rfl rfl rfl rfl (fun _ => rfl) sl22 (by simp only [List.nil_append, List.length_append, List.length_singleton, List.length_take, List.length_drop]; omega) rfl rfl rfl rfl) ?_
        refine o_nil ⟨rfl, ?_⟩
        refine dw1 17 rfl rfl ?_
        refine Pstep.go (st_assign rfl rfl) ?_
        refine o_nil ⟨rfl, ?_⟩
        refine dwe ?_
        refine a_freezeM (emb := rooD) 3 20 ((([] ++ acc.take m) ++ [p.ro[k]]) ++ acc.drop m) rfl rfl rfl rfl rfl rfl rfl ?_
        refine a_region ?_
        refine Pstep.go (st_move rfl rfl) ?_
        refine Pstep.go (st_add rfl rfl (wrapS (k + 1) (by omega)) rfl) ?_
        refine Pstep.go (st_assign rfl rfl) ?_
        refine o_nil ?_
        exact ⟨(k + 1, _), ⟨by show k + 1 ≤ _; omega, by show (((([] ++ acc.take m) ++ [p.ro[k]]) ++ acc.drop m) : List Roo).Perm (p.ro.take (k + 1)); rw [List.take_succ_eq_append_getElem hk1, List.nil_append]; exact ins_perm.trans (hP.append_right _), by show (((([] ++ acc.take m) ++ [p.ro[k]]) ++ acc.drop m) : List Roo).Pairwise _; rw [List.nil_append]; exact ins_sorted cmpRoo_pc hS hm hstop⟩, by show p.ro.length - (k + 1) < p.ro.length - k; omega, lep_of hF [1] rfl (rfl) ⟨rfl, rfl, rfl, trivial⟩⟩
    · refine o_nil ⟨rfl, ?_⟩
      refine dws ?_
      try have hm1 : m < acc.length := lt_cast h17
      refine d_pure [3, 17] [] rfl rfl (fun _ => gp_pass rfl rfl rfl rfl) ?_
      refine d_pure [5, 17] [] rfl rfl (fun _ => gp_pass rfl rfl rfl rfl) ?_
      refine d_pure [18, 19, 17] [] rfl rfl (fun _ => gp_pass rfl rfl rfl rfl) ?_
      refine d_pure [20, 17] [] rfl rfl (fun _ => gp_pass rfl rfl rfl rfl) ?_
      refine d_pure [21, 17] [] rfl rfl (fun _ => gp_pass rfl rfl rfl rfl) ?_
      refine d_pure [1, 17] [] rfl rfl (fun _ => gp_pass rfl rfl rfl rfl) ?_
      refine d_pure [23, 17] [] rfl rfl (fun _ => gp_pass rfl rfl rfl rfl) ?_
      refine d_pure [4, 17] [] rfl rfl (fun _ => gp_pass rfl rfl rfl rfl) ?_
      refine d_pure [24, 25, 17] [] rfl rfl (fun _ => gp_pass rfl rfl rfl rfl) ?_
      refine d_pure [26, 17] [] rfl rfl (fun _ => gp_pass rfl rfl rfl rfl) ?_
      refine d_pure [27, 17] [] rfl rfl (fun _ => gp_pass rfl rfl rfl rfl) ?_
      refine dwc 16 rfl rfl rfl ?_
      refine dw1 17 rfl rfl ?_
      refine o_pass rfl rfl rfl rfl ?_
      refine o_nil ⟨rfl, ?_⟩
      refine dw1 18 rfl rfl ?_
      refine o_pass rfl rfl rfl rfl ?_
      refine o_nil ⟨rfl, ?_⟩
      refine dw1 19 rfl rfl ?_
      refine Pstep.go (st_pickF rfl rfl rfl rfl) ?_
      refine o_nil ⟨rfl, ?_⟩
      refine dwe ?_
      refine a_false rfl rfl ?_
      refine a_exit ?_
      have hstop : ∀ y, acc[m]? = some y → ¬ cmpR y.r p.ro[k].r < 0 := by first | (intro y hy; have h3 := (List.getElem?_eq_some_iff.1 hy).1; exact absurd h3 (by have h := h17; omega)) | (intro y hy; rw [List.getElem?_eq_getElem hm1] at hy; injection hy with hy; rw [← hy]; exact h31)
      refine a_drawn [[], [], [], [1, 2], [0, 1, 2, 3], [], [5], [], [5, 6, 7], [5, 6, 7, 8], [5, 6, 7, 8, 9], [0, 1, 2, 3, 4, 5, 6, 7, 8, 9, 10], [], [], [12, 13], [0, 1, 2, 3, 4, 5, 6, 7, 8, 9, 10, 11, 12, 13, 14], [0, 1, 2, 3, 4, 5, 6, 7, 8, 9, 10, 11, 12, 13, 14, 15]] mixed rfl ?_
      refine dws ?_
      refine d_eff [] [20] [(34, _)] rfl rfl (fun _ => ge_none (st_buildSlice 20 sl22 rfl rfl rfl rfl rfl rfl rfl rfl)) (.inr ⟨34, _, rfl, rfl, rfl, rfl, rfl⟩) rfl rfl rfl rfl rfl ?_
      refine d_pure [3] [] rfl rfl (fun _ => gp_none (st_move rfl rfl)) ?_
      refine d_pure [5] [] rfl rfl (fun _ => gp_none (st_move rfl rfl)) ?_
      refine d_pure [35, 36] [] rfl rfl (fun _ => gp_none (st_sliceHiM (acc) (m) rfl rfl rfl (rfl) (by omega) Tryz.underlying22 sz104 (fun _ => rfl) rfl)) ?_
      refine d_eff [34, 37] [20] [(38, _)] rfl rfl (fun _ => ge_none (st_appMD (([] : List Roo)) (acc.take m) rfl rfl rfl rfl rfl rfl (fun _ => rfl) sl22 (by simp only [List.length_nil, List.length_take]; omega) rfl rfl rfl rfl)) (.inr ⟨38, _, rfl, rfl, rfl, rfl, rfl⟩) rfl rfl rfl rfl rfl ?_
      refine d_pure [1] [] rfl rfl (fun _ => gp_none (st_fieldP rfl fi25_0 rfl rfl rfl)) ?_
      refine d_pure [39] [1] rfl rfl (fun _ => gp_none (st_loadP rfl rfl rfl on22 rfl)) ?_
      refine d_pure [4] [] rfl rfl (fun _ => gp_none (st_move rfl rfl)) ?_
      refine d_pure [40, 41] [] rfl rfl (fun _ => gp_none (st_indexD (k) rfl rfl (rfl) (getm hk1) Tryz.underlying22 rfl sz104 rfl)) ?_
      refine d_pure [42] [] rfl rfl (fun _ => gp_none (st_loadDS rfl rfl rw104 rfl)) ?_
      refine d_eff [43] [21] [(44, _)] rfl rfl (fun _ => ge_none (st_buildSlice 21 sl22 rfl rfl rfl rfl rfl rfl rfl rfl)) (.inr ⟨44, _, rfl, rfl, rfl, rfl, rfl⟩) rfl rfl rfl rfl rfl ?_
      refine d_effX [34] [38, 44] [20, 21] [(45, _)] rfl rfl (fun _ => ge_none (st_appM (([] ++ acc.take m)) ([p.ro[k]]) rfl rfl rfl rfl rfl rfl rfl rfl sl22 (by simp only [List.nil_append, List.length_singleton, List.length_take]; omega) rfl rfl rfl rfl)) (.inr ⟨45, _, rfl, rfl, rfl, rfl, rfl⟩) rfl rfl rfl rfl rfl ?_
      refine d_pure [3] [] rfl rfl (fun _ => gp_none (st_move rfl rfl)) ?_
      refine d_pure [5] [] rfl rfl (fun _ => gp_none (st_move rfl rfl)) ?_
      refine d_pure [46, 47] [] rfl rfl (fun _ => gp_none (st_sliceLoM (acc) (m) rfl rfl rfl (rfl) (by omega) Tryz.underlying22 sz104 (fun _ => rfl) rfl)) ?_
      refine dwc 15 rfl rfl rfl ?_
      refine dw1 16 rfl rfl ?_
      refine Estep.go (st_appMD ((([] ++ acc.take m) ++ [p.ro[k]])) (acc.drop m) rfl rfl rfl rfl rfl rfl (fun _ => rfl) sl22 (by simp only [List.nil_append, List.length_append, List.length_singleton, List.length_take, List.length_drop]; omega) rfl rfl rfl rfl) ?_
      refine o_nil ⟨rfl, ?_⟩
      refine dw1 17 rfl rfl ?_
      refine Pstep.go (st_assign rfl rfl) ?_
      refine o_nil ⟨rfl, ?_⟩
      refine dwe ?_
      refine a_freezeM (emb := rooD) 3 20 ((([] ++ acc.take m) ++ [p.ro[k]]) ++ acc.drop m) rfl rfl rfl rfl rfl rfl rfl ?_
      refine a_region ?_
      refine Pstep.go (st_move rfl rfl) ?_
      refine Pstep.go (st_add rfl rfl (wrapS (k + 1) (by omega)) rfl) ?_
      refine Pstep.go (st_assign rfl rfl) ?_
      refine o_nil ?_
      exact ⟨(k + 1, _), ⟨by show k + 1 ≤ _; omega, by show (((([] ++ acc.take m) ++ [p.ro[k]]) ++ acc.drop m) : List Roo).Perm (p.ro.take (k + 1)); rw [List.take_succ_eq_append_getElem hk1, List.nil_append]; exact ins_perm.trans (hP.append_right _), by show (((([] ++ acc.take m) ++ [p.ro[k]]) ++ acc.drop m) : List Roo).Pairwise _; rw [List.nil_append]; exact ins_sorted cmpRoo_pc hS hm hstop⟩, by show p.ro.length - (k + 1) < p.ro.length - k; omega, lep_of hF [1] rfl (rfl) ⟨rfl, rfl, rfl, trivial⟩⟩
  · refine a_exit ?_
    refine a_seq ?_
    refine a_region ?_
    refine Pstep.go (st_move rfl rfl) ?_
    refine Pstep.go (st_assign rfl rfl) ?_
    refine o_nil ?_
    refine a_ret ?_
    exact ⟨_, [], [], res_of rfl, rfl, rfl, by rw [linR_one hp (by have h4 := hP; rw [List.take_of_length_le (by have h := h10; omega)] at h4; exact h4) hS], rfl⟩
/-- An item of a valid problem, by its id. -/
theorem itmOf_self {p : Prb} (hp : prbE p = 0) {x : Itm} (hx : x ∈ p.it) : itmOf p x.id = x := by
  obtain ⟨hk, _, e, e2⟩ := itmOf_at (p := p) (List.mem_map.2 ⟨x, hx, rfl⟩)
  exact ids_inj (items_ids (prb_ok hp).2.1) (by rw [e]; exact List.getElem_mem hk) hx e2
theorem prefN_in {i : Int} {q : List Int} (h : i ∈ q) : prefN i q = q.idxOf i := by unfold prefN ixI; rw [if_pos h]; omega
theorem prefN_out {i : Int} {q : List Int} (h : i ∉ q) : prefN i q = 0 := by unfold prefN ixI; rw [if_neg h]; rfl
theorem reqL_get (i : Int) (y : Lin) {j : Nat} (h : j < (reqL i y).length) (h2 : j < y.q.length) : (reqL i y)[j] = ⟨i, y.q[j], y.r⟩ := by simp [reqL, prefQ]
theorem idxOf_first : ∀ {l : List Int} {x : Int} {j : Nat} (h : j < l.length), l[j] = x → l.idxOf x ≤ j
  | a :: l, x, 0, _, he => by
    have he : a = x := he
    rw [List.idxOf_cons, he]; simp
  | a :: l, x, j + 1, h, he => by
    rw [List.idxOf_cons]
    cases hb : a == x with
    | true => simp
    | false =>
      have h1 := idxOf_first (l := l) (x := x) (j := j) (by simpa using h) (by simpa using he)
      simp only [cond_false]; omega
theorem linL_flat {p : Prb} {β : Type} (g : Lin → List β) : (linL p).flatMap g = (linR p.ro).flatMap fun y => g (toLin p y) := by unfold linL; rw [List.flatMap_map]
set_option maxRecDepth 100000 in
set_option maxHeartbeats 1000000 in
theorem missing29_p (p : Prb) (l : List Int) (x : Itm) (hp : prbE p = 0) (_ : PrbB p) (h1 : p.it.length ≤ 1000) (h2 : p.ro.length ≤ 1000) (h3 : ∀ i ∈ p.it, i.po.length ≤ 1000 ∧ i.pa.length ≤ 1000 ∧ i.af.length ≤ 1000) (hl : l.length ≤ 100000) (hx : x ∈ p.it) : PCalls Tryz.prog 50 [.d (prbD p), .d (.sl none (l.map intD)), .d (itmD x)] (.sl none ((blkF (inL l) (req p x.id)).map bkdD)) := by
  have hO : ordP p = sortO p.it := if_pos hp
  have hgx := h3 x hx
  have hrq : req p x.id = (sortI x.af).map (fun y => (⟨x.id, y, rsc0⟩ : Bkd)) ++ (linR p.ro).flatMap fun y => reqL x.id (toLin p y) := by unfold req reqA; rw [itmOf_self hp hx, linL_flat]
  rw [hrq]
  have hsrt := sort29_p x.af (by omega)
  have hsl := sortI_len x.af
  have hrm := rooms29_p p hp (by omega)
  have hrl := linR_len p.ro
  have hg3 : ∀ i ∈ sortO p.it, i.po.length ≤ 1000 ∧ i.pa.length ≤ 1000 ∧ i.af.length ≤ 1000 := fun i hi => h3 i ((sortO_perm p.it).mem_iff.1 hi)
  have hrq2 := fun r => refqueue_p p r h1 hg3
  have hql : ∀ r, (qIds (ordP p) r).length ≤ 1000 := fun r => by unfold qIds; rw [List.length_map]; exact Nat.le_trans (List.length_filter_le _ _) (Nat.le_trans (ordP_len p) h1)
  rw [← hO] at hrq2
  obtain ⟨S, hS⟩ : ∃ S, sortI x.af = S := ⟨_, rfl⟩
  obtain ⟨R, hR⟩ : ∃ R, linR p.ro = R := ⟨_, rfl⟩
  rw [hS] at hsrt hsl ⊢
  rw [hR] at hrm hrl ⊢
  refine a_enter Tryz.func50 rfl rfl Tryz.ntmps50 rfl rfl rfl fun F hF => ?_
  refine a_seq ?_
  refine a_region ?_
  refine Estep.go (st_box 1 rfl rfl rfl rfl rfl rfl rfl) ?_
  refine Estep.go (st_box 2 rfl rfl rfl rfl rfl rfl rfl) ?_
  refine Pstep.go (st_assign rfl rfl) ?_
  refine o_nil ?_
  refine a_seq ?_
  refine a_region ?_
  refine Pstep.go (st_assign rfl rfl) ?_
  refine o_nil ?_
  refine a_seq ?_
  refine a_adopt 7 900 sl42 rfl rfl rfl rfl ?_
  refine a_region ?_
  refine Pstep.go (st_fieldP rfl fi80_5 rfl rfl rfl) ?_
  refine Pstep.go (st_loadP rfl rfl rfl on26 rfl) ?_
  refine Pstep.go (st_callP (hsrt) rfl rfl) ?_
  refine Pstep.go (st_assign rfl rfl) ?_
  refine o_nil ?_
  refine a_seq ?_
  refine a_seq ?_
  refine a_region ?_
  refine Pstep.go (st_assign rfl rfl) ?_
  refine o_nil ?_
  refine a_block ?_
  refine a_loopP (α := Nat × List Bkd) (fun q => ⟨92, [(1, .d (.sl none (l.map intD))), (3, (.ptr 1 0 0)), (5, (.ptr 2 0 0)), (7, (.own 900 0 q.2.length)), (8, (.d (.sl none (S.map intD)))), (9, (.d (intD (q.1 : Int))))], [(900, [.rowD 54 8 (q.2.map bkdD)]), (1, [prbB2 25 p]), (2, [itmB 80 x])]⟩) (fun q => q.1 ≤ S.length ∧ q.2 = blkF (inL l) ((S.map fun y => (⟨x.id, y, rsc0⟩ : Bkd)).take q.1)) (fun q => S.length - q.1) ((0, [])) (⟨Nat.zero_le _, rfl⟩) (lep_of hF [900, 1, 2] rfl rfl ⟨rfl, rfl, rfl, rfl, rfl, rfl, trivial⟩) ?_
  rintro ⟨k, acc⟩ ⟨hk0, hA⟩
  dsimp only at hk0 hA ⊢
  refine a_seq ?_
  refine a_seq ?_
  refine a_region ?_
  refine Pstep.go (st_move rfl rfl) ?_
  refine Pstep.go (st_move rfl rfl) ?_
  refine Pstep.go (st_lenMap rfl Tryz.underlying26 rfl) ?_
  refine Pstep.go (st_lss rfl rfl rfl) ?_
  refine o_nil ?_
  refine a_if rfl (fun h20 => ?_) (fun h20 => ?_)
  · have hk1 : k < S.length := lt_cast h20
    refine a_skip ?_
    refine a_seq ?_
    refine a_block ?_
    refine a_seq ?_
    refine a_region ?_
    refine Pstep.go (st_move rfl rfl) ?_
    refine Pstep.go (st_move rfl rfl) ?_
    refine Pstep.go (st_move rfl rfl) ?_
    refine Pstep.go (st_indexD (k) rfl rfl (rfl) (getm hk1) Tryz.underlying26 rfl sz3 rfl) ?_
    refine Pstep.go (st_loadD1 rfl rfl on3 rfl) ?_
    refine Pstep.go (st_callP (in29_p l S[k] (by omega)) rfl rfl) ?_
    refine Pstep.go (st_notP rfl rfl) ?_
    refine o_nil ?_
    refine a_if rfl (fun h29 => ?_) (fun h29 => ?_)
    · refine a_drawn [[], [], [1], [], [], [3, 4], [3, 4, 5], [1, 2, 3, 4, 5, 6], [1, 2, 3, 4, 5, 6, 7], [0, 1, 2, 3, 4, 5, 6, 7, 8], [0, 1, 2, 3, 4, 5, 6, 7, 8, 9]] mixed rfl ?_
      refine dws ?_
      have hal : acc.length ≤ 100000 := by rw [hA]; refine Nat.le_trans (blkF_len _ _) ?_; rw [List.length_take, List.length_map]; omega
      refine d_pure [7] [] rfl rfl (fun _ => gp_none (st_move rfl rfl)) ?_
      refine d_pure [5] [] rfl rfl (fun _ => gp_none (st_fieldP rfl fi80_0 rfl rfl rfl)) ?_
      refine d_pure [31] [2] rfl rfl (fun _ => gp_none (st_loadP rfl rfl rfl on3 rfl)) ?_
      refine d_pure [8] [] rfl rfl (fun _ => gp_none (st_move rfl rfl)) ?_
      refine d_pure [9] [] rfl rfl (fun _ => gp_none (st_move rfl rfl)) ?_
      refine d_pure [33, 34] [] rfl rfl (fun _ => gp_none (st_indexD (k) rfl rfl (rfl) (getm hk1) Tryz.underlying26 rfl sz3 rfl)) ?_
      refine d_pure [35] [] rfl rfl (fun _ => gp_none (st_loadD1 rfl rfl on3 rfl)) ?_
      refine d_pure [32, 36] [] rfl rfl (fun _ => gp_none (st_build zl54 pl54 rfl rfl rfl)) ?_
      refine d_eff [37] [50] [(38, _)] rfl rfl (fun _ => ge_none (st_buildSlice 50 sl42 rfl rfl rfl rfl rfl rfl rfl rfl)) (.inr ⟨38, _, rfl, rfl, rfl, rfl, rfl⟩) rfl rfl rfl rfl rfl ?_
      refine dwc 9 rfl rfl rfl ?_
      refine dw1 10 rfl rfl ?_
      refine Estep.go (st_appM (acc) ([⟨x.id, S[k], rsc0⟩]) rfl rfl rfl rfl rfl rfl rfl rfl sl42 (by simp only [List.length_singleton]; omega) rfl rfl rfl rfl) ?_
      refine o_nil ⟨rfl, ?_⟩
      refine dw1 11 rfl rfl ?_
      refine Pstep.go (st_assign rfl rfl) ?_
      refine o_nil ⟨rfl, ?_⟩
      refine dwe ?_
      refine a_region ?_
      refine Pstep.go (st_move rfl rfl) ?_
      refine Pstep.go (st_add rfl rfl (wrapS (k + 1) (by omega)) rfl) ?_
      refine Pstep.go (st_assign rfl rfl) ?_
      refine o_nil ?_
      exact ⟨(k + 1, acc ++ [⟨x.id, S[k], rsc0⟩]), ⟨by show k + 1 ≤ _; omega, by show acc ++ [⟨x.id, S[k], rsc0⟩] = blkF (inL l) ((S.map fun y => (⟨x.id, y, rsc0⟩ : Bkd)).take (k + 1)); rw [blkF_snoc (by simpa using hk1), List.getElem_map, if_pos (by show (!inL l S[k]) = true; unfold inL; simpa using h29), hA]⟩, by show S.length - (k + 1) < S.length - k; omega, lep_of hF [900, 1, 2] rfl (rfl) ⟨rfl, rfl, rfl, rfl, rfl, rfl, trivial⟩⟩
    · refine a_skip ?_
      refine a_region ?_
      refine Pstep.go (st_move rfl rfl) ?_
      refine Pstep.go (st_add rfl rfl (wrapS (k + 1) (by omega)) rfl) ?_
      refine Pstep.go (st_assign rfl rfl) ?_
      refine o_nil ?_
      exact ⟨(k + 1, acc), ⟨by show k + 1 ≤ _; omega, by show acc = blkF (inL l) ((S.map fun y => (⟨x.id, y, rsc0⟩ : Bkd)).take (k + 1)); rw [blkF_snoc (by simpa using hk1), List.getElem_map, if_neg (by show ¬ (!inL l S[k]) = true; unfold inL; simpa using h29), List.append_nil, hA]⟩, by show S.length - (k + 1) < S.length - k; omega, lep_of hF [900, 1, 2] rfl (rfl) ⟨rfl, rfl, rfl, rfl, rfl, rfl, trivial⟩⟩
  · refine a_exit ?_
    refine a_seq ?_
    have hA1 : acc = blkF (inL l) (S.map fun y => (⟨x.id, y, rsc0⟩ : Bkd)) := by rw [hA, List.take_of_length_le (by rw [List.length_map]; have h := h20; omega)]
    have hal1 : acc.length ≤ 1000 := by rw [hA1]; refine Nat.le_trans (blkF_len _ _) ?_; rw [List.length_map]; omega
    refine a_region ?_
    refine Pstep.go (st_loadPS rfl rfl rw25 rfl rfl rfl) ?_
    refine Pstep.go (st_callP (hrm) rfl rfl) ?_
    refine Pstep.go (st_assign rfl rfl) ?_
    refine o_nil ?_
    refine a_seq ?_
    refine a_seq ?_
    refine a_region ?_
    refine Pstep.go (st_assign rfl rfl) ?_
    refine o_nil ?_
    refine a_block ?_
    refine a_loopP (α := Nat × List Bkd) (fun q => ⟨92, [(1, .d (.sl none (l.map intD))), (3, (.ptr 1 0 0)), (5, (.ptr 2 0 0)), (7, (.own 900 0 q.2.length)), (10, (.d (.sl none (R.map rooD)))), (11, (.d (intD (q.1 : Int))))], [(900, [.rowD 54 8 (q.2.map bkdD)]), (1, [prbB2 25 p]), (2, [itmB 80 x])]⟩) (fun q => q.1 ≤ R.length ∧ q.2 = acc ++ blkF (inL l) ((R.take q.1).flatMap fun y => reqL x.id (toLin p y))) (fun q => R.length - q.1) ((0, acc)) (⟨Nat.zero_le _, by simp [blkF]⟩) (lep_of hF [900, 1, 2] rfl rfl ⟨rfl, rfl, rfl, rfl, rfl, rfl, trivial⟩) ?_
    rintro ⟨m, acc2⟩ ⟨hm0, hB⟩
    dsimp only at hm0 hB ⊢
    refine a_seq ?_
    refine a_seq ?_
    refine a_region ?_
    refine Pstep.go (st_move rfl rfl) ?_
    refine Pstep.go (st_move rfl rfl) ?_
    refine Pstep.go (st_lenMap rfl Tryz.underlying22 rfl) ?_
    refine Pstep.go (st_lss rfl rfl rfl) ?_
    refine o_nil ?_
    refine a_if rfl (fun h45 => ?_) (fun h45 => ?_)
    · have hm1 : m < R.length := lt_cast h45
      refine a_skip ?_
      refine a_seq ?_
      refine a_block ?_
      refine a_seq ?_
      refine a_drawn [[], [], [], [1, 2], [1, 2, 3], [1, 2, 3, 4], [0, 1, 2, 3, 4, 5], [0, 1, 2, 3, 4, 5, 6]] mixed rfl ?_
      refine dws ?_
      have hfl := flat_len (f := fun y => reqL x.id (toLin p y)) (n := 1000) (l := R.take m) (fun y _ => by unfold reqL prefQ; rw [List.length_map, List.length_take]; exact Nat.le_trans (Nat.min_le_right _ _) (hql y.r))
      have hbl : acc2.length ≤ 1200000 := by rw [hB, List.length_append]; have := blkF_len (inL l) ((R.take m).flatMap fun y => reqL x.id (toLin p y)); rw [List.length_take] at hfl; have h3 : min m R.length * 1000 ≤ 1000 * 1000 := Nat.mul_le_mul_right _ (by omega); omega
      refine d_pureA [3] rfl rfl (fun _ => gp_none (st_loadPS rfl rfl rw25 rfl rfl rfl)) ?_
      refine d_pure [10] [] rfl rfl (fun _ => gp_none (st_move rfl rfl)) ?_
      refine d_pure [11] [] rfl rfl (fun _ => gp_none (st_move rfl rfl)) ?_
      refine d_pure [49, 50] [] rfl rfl (fun _ => gp_none (st_indexD (m) rfl rfl (rfl) (getm hm1) Tryz.underlying22 rfl sz104 rfl)) ?_
      refine d_pure [51] [] rfl rfl (fun _ => gp_none (st_fieldFS rfl fi104_0 rfl rfl rfl)) ?_
      refine d_pure [52] [] rfl rfl (fun _ => gp_none (st_loadDS rfl rfl rw52 rfl)) ?_
      refine dwc 6 rfl rfl rfl ?_
      refine dw1 7 rfl rfl ?_
      refine Pstep.go (st_callP (hrq2 R[m].r) rfl rfl) ?_
      refine o_nil ⟨rfl, ?_⟩
      refine dw1 8 rfl rfl ?_
      refine Pstep.go (st_assign rfl rfl) ?_
      refine o_nil ⟨rfl, ?_⟩
      refine dwe ?_
      refine a_seq ?_
      refine a_seq ?_
      refine a_region ?_
      refine Pstep.go (st_move rfl rfl) ?_
      refine Pstep.go (st_fieldP rfl fi80_0 rfl rfl rfl) ?_
      refine Pstep.go (st_loadP rfl rfl rfl on3 rfl) ?_
      refine Pstep.go (st_callP (in29_p (qIds (ordP p) R[m].r) x.id (by have := hql R[m].r; omega)) rfl rfl) ?_
      refine Pstep.go (st_notP rfl rfl) ?_
      refine o_nil ?_
      refine a_if rfl (fun h59 => ?_) (fun h59 => ?_)
      · refine a_exit ?_
        refine a_region ?_
        try have hfin : acc3 = acc2 ++ blkF (inL l) (reqL x.id (toLin p R[m])) := by rw [hC, List.take_of_length_le (by unfold reqL prefQ; rw [List.length_map, List.length_take]; show min (prefN x.id (qIds (ordP p) R[m].r)) _ ≤ j; rw [hpn]; omega)]
        refine Pstep.go (st_move rfl rfl) ?_
        refine Pstep.go (st_add rfl rfl (wrapS (m + 1) (by omega)) rfl) ?_
        refine Pstep.go (st_assign rfl rfl) ?_
        refine o_nil ?_
        exact ⟨(m + 1, acc2), ⟨by show m + 1 ≤ _; omega, by show acc2 = acc ++ blkF (inL l) ((R.take (m + 1)).flatMap fun y => reqL x.id (toLin p y)); rw [flat_snoc hm1, blkF_app, ← List.append_assoc, ← hB]; have hz : reqL x.id (toLin p R[m]) = [] := by { unfold reqL prefQ; rw [prefN_out (q := (toLin p R[m]).q) (show x.id ∉ qIds (ordP p) R[m].r from by simpa using h59)]; rfl }; rw [hz]; simp [blkF]⟩, by show R.length - (m + 1) < R.length - m; omega, lep_of hF [900, 1, 2] rfl (rfl) ⟨rfl, rfl, rfl, rfl, rfl, rfl, trivial⟩⟩
      · have hiq : x.id ∈ qIds (ordP p) R[m].r := by simpa using h59
        refine a_skip ?_
        refine a_seq ?_
        have hix := List.idxOf_lt_length_iff.2 hiq
        have hpn := prefN_in hiq
        refine a_region ?_
        refine Pstep.go (st_assign rfl rfl) ?_
        refine o_nil ?_
        refine a_block ?_
        refine a_loopP (α := Nat × List Bkd) (fun q => ⟨92, [(1, .d (.sl none (l.map intD))), (3, (.ptr 1 0 0)), (5, (.ptr 2 0 0)), (7, (.own 900 0 q.2.length)), (10, (.d (.sl none (R.map rooD)))), (11, (.d (intD (m : Int)))), (12, (.d (.sl none ((qIds (ordP p) R[m].r).map intD)))), (13, (.d (intD (q.1 : Int))))], [(900, [.rowD 54 8 (q.2.map bkdD)]), (1, [prbB2 25 p]), (2, [itmB 80 x])]⟩) (fun q => q.1 ≤ (qIds (ordP p) R[m].r).idxOf x.id ∧ q.2 = acc2 ++ blkF (inL l) ((reqL x.id (toLin p R[m])).take q.1)) (fun q => (qIds (ordP p) R[m].r).idxOf x.id - q.1) ((0, acc2)) (⟨Nat.zero_le _, by simp [blkF]⟩) (lep_of hF [900, 1, 2] rfl rfl ⟨rfl, rfl, rfl, rfl, rfl, rfl, rfl, rfl, trivial⟩) ?_
        rintro ⟨j, acc3⟩ ⟨hj0, hC⟩
        dsimp only at hj0 hC ⊢
        refine a_seq ?_
        refine a_seq ?_
        refine a_drawn [[], [], [0, 1], [0, 1, 2], [], [4], [0, 1, 2, 3, 4, 5]] mixed rfl ?_
        refine dws ?_
        have hjq : j < (qIds (ordP p) R[m].r).length := by omega
        refine d_pure [12] [] rfl rfl (fun _ => gp_none (st_move rfl rfl)) ?_
        refine d_pure [13] [] rfl rfl (fun _ => gp_none (st_move rfl rfl)) ?_
        refine d_pure [60, 61] [] rfl rfl (fun _ => gp_none (st_indexD (j) rfl rfl (rfl) (getm hjq) Tryz.underlying26 rfl sz3 rfl)) ?_
        refine d_pure [62] [] rfl rfl (fun _ => gp_none (st_loadD1 rfl rfl on3 rfl)) ?_
        refine d_pure [5] [] rfl rfl (fun _ => gp_none (st_fieldP rfl fi80_0 rfl rfl rfl)) ?_
        refine d_pureA [64] rfl rfl (fun _ => gp_none (st_loadP rfl rfl rfl on3 rfl)) ?_
        refine dwc 6 rfl rfl rfl ?_
        refine dw1 7 rfl rfl ?_
        refine Pstep.go (st_neq rfl rfl rfl) ?_
        refine o_nil ⟨rfl, ?_⟩
        refine dwe ?_
        refine a_if rfl (fun h66 => ?_) (fun h66 => ?_)
        · have hjlt : j < (qIds (ordP p) R[m].r).idxOf x.id := by have hne : j ≠ (qIds (ordP p) R[m].r).idxOf x.id := by { intro e; apply h66; subst e; exact List.getElem_idxOf hjq }; omega
          refine a_skip ?_
          refine a_seq ?_
          refine a_block ?_
          refine a_seq ?_
          refine a_region ?_
          have hjr : j < (reqL x.id (toLin p R[m])).length := by unfold reqL prefQ; rw [List.length_map, List.length_take]; show j < min (prefN x.id (qIds (ordP p) R[m].r)) _; rw [hpn]; show j < min _ (qIds (ordP p) R[m].r).length; omega
          have hje : (reqL x.id (toLin p R[m]))[j] = ⟨x.id, (qIds (ordP p) R[m].r)[j], R[m].r⟩ := reqL_get x.id (toLin p R[m]) hjr hjq
          refine Pstep.go (st_move rfl rfl) ?_
          refine Pstep.go (st_move rfl rfl) ?_
          refine Pstep.go (st_move rfl rfl) ?_
          refine Pstep.go (st_indexD (j) rfl rfl (rfl) (getm hjq) Tryz.underlying26 rfl sz3 rfl) ?_
          refine Pstep.go (st_loadD1 rfl rfl on3 rfl) ?_
          refine Pstep.go (st_callP (in29_p l (qIds (ordP p) R[m].r)[j] (by omega)) rfl rfl) ?_
          refine Pstep.go (st_notP rfl rfl) ?_
          refine o_nil ?_
          refine a_if rfl (fun h75 => ?_) (fun h75 => ?_)
          · refine a_drawn [[], [], [1], [], [], [3, 4], [3, 4, 5], [], [], [7, 8], [7, 8, 9], [7, 8, 9, 10], [1, 2, 3, 4, 5, 6, 7, 8, 9, 10, 11], [1, 2, 3, 4, 5, 6, 7, 8, 9, 10, 11, 12], [0, 1, 2, 3, 4, 5, 6, 7, 8, 9, 10, 11, 12, 13], [0, 1, 2, 3, 4, 5, 6, 7, 8, 9, 10, 11, 12, 13, 14]] mixed rfl ?_
            refine dws ?_
            have hcl3 : acc3.length ≤ 1300000 := by rw [hC, List.length_append]; have h3 := blkF_len (inL l) ((reqL x.id (toLin p R[m])).take j); have h4 := hql R[m].r; rw [List.length_take] at h3; omega
            refine d_pure [7] [] rfl rfl (fun _ => gp_none (st_move rfl rfl)) ?_
            refine d_pure [5] [] rfl rfl (fun _ => gp_none (st_fieldP rfl fi80_0 rfl rfl rfl)) ?_
            refine d_pure [77] [2] rfl rfl (fun _ => gp_none (st_loadP rfl rfl rfl on3 rfl)) ?_
            refine d_pure [12] [] rfl rfl (fun _ => gp_none (st_move rfl rfl)) ?_
            refine d_pure [13] [] rfl rfl (fun _ => gp_none (st_move rfl rfl)) ?_
            refine d_pure [79, 80] [] rfl rfl (fun _ => gp_none (st_indexD (j) rfl rfl (rfl) (getm hjq) Tryz.underlying26 rfl sz3 rfl)) ?_
            refine d_pure [81] [] rfl rfl (fun _ => gp_none (st_loadD1 rfl rfl on3 rfl)) ?_
            refine d_pure [10] [] rfl rfl (fun _ => gp_none (st_move rfl rfl)) ?_
            refine d_pure [11] [] rfl rfl (fun _ => gp_none (st_move rfl rfl)) ?_
            refine d_pure [83, 84] [] rfl rfl (fun _ => gp_none (st_indexD (m) rfl rfl (rfl) (getm hm1) Tryz.underlying22 rfl sz104 rfl)) ?_
            refine d_pure [85] [] rfl rfl (fun _ => gp_none (st_fieldFS rfl fi104_0 rfl rfl rfl)) ?_
            refine d_pure [86] [] rfl rfl (fun _ => gp_none (st_loadDS rfl rfl rw52 rfl)) ?_
            refine d_pure [78, 82, 87] [] rfl rfl (fun _ => gp_none (st_build zl54 pl54 rfl rfl rfl)) ?_
            refine d_eff [88] [51] [(89, _)] rfl rfl (fun _ => ge_none (st_buildSlice 51 sl42 rfl rfl rfl rfl rfl rfl rfl rfl)) (.inr ⟨89, _, rfl, rfl, rfl, rfl, rfl⟩) rfl rfl rfl rfl rfl ?_
            refine dwc 14 rfl rfl rfl ?_
            refine dw1 15 rfl rfl ?_
            refine Estep.go (st_appM (acc3) ([⟨x.id, (qIds (ordP p) R[m].r)[j], R[m].r⟩]) rfl rfl rfl rfl rfl rfl rfl rfl sl42 (by simp only [List.length_singleton]; omega) rfl rfl rfl rfl) ?_
            refine o_nil ⟨rfl, ?_⟩
            refine dw1 16 rfl rfl ?_
            refine Pstep.go (st_assign rfl rfl) ?_
            refine o_nil ⟨rfl, ?_⟩
            refine dwe ?_
            refine a_region ?_
            refine Pstep.go (st_move rfl rfl) ?_
            refine Pstep.go (st_add rfl rfl (wrapS (j + 1) (by have := hql R[m].r; omega)) rfl) ?_
            refine Pstep.go (st_assign rfl rfl) ?_
            refine o_nil ?_
            exact ⟨(j + 1, acc3 ++ [⟨x.id, (qIds (ordP p) R[m].r)[j], R[m].r⟩]), ⟨by show j + 1 ≤ _; omega, by show acc3 ++ [⟨x.id, (qIds (ordP p) R[m].r)[j], R[m].r⟩] = acc2 ++ blkF (inL l) ((reqL x.id (toLin p R[m])).take (j + 1)); rw [blkF_snoc hjr, hC, List.append_assoc, hje, if_pos (by show (!inL l (qIds (ordP p) R[m].r)[j]) = true; unfold inL; simpa using h75)]⟩, by show (qIds (ordP p) R[m].r).idxOf x.id - (j + 1) < (qIds (ordP p) R[m].r).idxOf x.id - j; omega, lep_of hF [900, 1, 2] rfl (rfl) ⟨rfl, rfl, rfl, rfl, rfl, rfl, rfl, rfl, trivial⟩⟩
          · refine a_skip ?_
            refine a_region ?_
            refine Pstep.go (st_move rfl rfl) ?_
            refine Pstep.go (st_add rfl rfl (wrapS (j + 1) (by have := hql R[m].r; omega)) rfl) ?_
            refine Pstep.go (st_assign rfl rfl) ?_
            refine o_nil ?_
            exact ⟨(j + 1, acc3), ⟨by show j + 1 ≤ _; omega, by show acc3 = acc2 ++ blkF (inL l) ((reqL x.id (toLin p R[m])).take (j + 1)); rw [blkF_snoc hjr, hC, hje, if_neg (by show ¬ (!inL l (qIds (ordP p) R[m].r)[j]) = true; unfold inL; simpa using h75), List.append_nil]⟩, by show (qIds (ordP p) R[m].r).idxOf x.id - (j + 1) < (qIds (ordP p) R[m].r).idxOf x.id - j; omega, lep_of hF [900, 1, 2] rfl (rfl) ⟨rfl, rfl, rfl, rfl, rfl, rfl, rfl, rfl, trivial⟩⟩
        · have hje0 : j = (qIds (ordP p) R[m].r).idxOf x.id := by have hge : ¬ j < (qIds (ordP p) R[m].r).idxOf x.id := by { intro hlt; have h8 : (qIds (ordP p) R[m].r)[j] = x.id := by { simpa using h66 }; have h7 := idxOf_first hjq h8; omega }; omega
          refine a_exit ?_
          refine a_region ?_
          try have hfin : acc3 = acc2 ++ blkF (inL l) (reqL x.id (toLin p R[m])) := by rw [hC, List.take_of_length_le (by unfold reqL prefQ; rw [List.length_map, List.length_take]; show min (prefN x.id (qIds (ordP p) R[m].r)) _ ≤ j; rw [hpn]; omega)]
          refine Pstep.go (st_move rfl rfl) ?_
          refine Pstep.go (st_add rfl rfl (wrapS (m + 1) (by omega)) rfl) ?_
          refine Pstep.go (st_assign rfl rfl) ?_
          refine o_nil ?_
          exact ⟨(m + 1, acc3), ⟨by show m + 1 ≤ _; omega, by show acc3 = acc ++ blkF (inL l) ((R.take (m + 1)).flatMap fun y => reqL x.id (toLin p y)); rw [flat_snoc hm1, blkF_app, ← List.append_assoc, ← hB]; exact hfin⟩, by show R.length - (m + 1) < R.length - m; omega, lep_of hF [900, 1, 2] rfl (rfl) ⟨rfl, rfl, rfl, rfl, rfl, rfl, trivial⟩⟩
    · refine a_exit ?_
      refine a_seq ?_
      have hfa : acc2 = blkF (inL l) ((S.map fun y => (⟨x.id, y, rsc0⟩ : Bkd)) ++ R.flatMap fun y => reqL x.id (toLin p y)) := by rw [hB, hA1, List.take_of_length_le (by have h := h45; omega), blkF_app]
      refine a_freezeM (emb := bkdD) 7 900 acc2 rfl rfl rfl rfl rfl rfl rfl ?_
      refine a_region ?_
      refine Pstep.go (st_move rfl rfl) ?_
      refine Pstep.go (st_assign rfl rfl) ?_
      refine o_nil ?_
      refine a_ret ?_
      exact ⟨_, [], [], res_of rfl, rfl, rfl, by rw [hfa], rfl⟩
end Go.Proofs.YtnamabifclidmaaGreat
/- Layer 29: the reference's functions. -/
namespace Go.Proofs.YtnamabifclidmaaGreat
open Go.RowKit

set_option maxRecDepth 100000 in
theorem check29_p (p : Prb) (l : List Int) (g1 : p.ro.length ≤ 1000) (g2 : p.it.length ≤ 1000) (g3 : ∀ i ∈ p.it, i.po.length ≤ 1000 ∧ i.pa.length ≤ 1000 ∧ i.af.length ≤ 1000) (hl : l.length ≤ 100000) : PCalls Tryz.prog 18 [.d (prbD p), .d (.sl none (l.map intD))] (intD (choE p l)) := by
  have hck := refpcheck_p p g1 g2 g3
  by_cases h0 : prbE p = 0
  · have hC : choE p l = setE (p.it.map Itm.id) l := if_neg (fun h => h h0)
    rw [h0] at hck
    rw [hC]
    obtain ⟨E0, hE0⟩ : ∃ e, setE (p.it.map Itm.id) l = e := ⟨_, rfl⟩
    rw [hE0]
    refine a_enter Tryz.func18 rfl rfl Tryz.ntmps18 rfl rfl rfl fun F hF => ?_
    refine a_seq ?_
    refine a_region ?_
    refine Estep.go (st_box 1 rfl rfl rfl rfl rfl rfl rfl) ?_
    refine Pstep.go (st_assign rfl rfl) ?_
    refine o_nil ?_
    refine a_seq ?_
    refine a_seq ?_
    refine a_region ?_
    refine Pstep.go (st_loadPS rfl rfl rw25 rfl rfl rfl) ?_
    refine Pstep.go (st_callP (hck) rfl rfl) ?_
    refine Pstep.go (st_assign rfl rfl) ?_
    refine o_nil ?_
    refine a_seq ?_
    refine a_region ?_
    refine Pstep.go (st_move rfl rfl) ?_
    refine Pstep.go (st_neq rfl rfl rfl) ?_
    refine o_nil ?_
    refine a_false rfl ((by decide)) ?_
    refine a_skip ?_
    refine a_seq ?_
    refine a_seq ?_
    refine a_region ?_
    refine Pstep.go (st_assign rfl rfl) ?_
    refine o_nil ?_
    refine a_block ?_
    refine a_loopP (α := Nat) (fun k => ⟨33, [(1, .d (.sl none (l.map intD))), (2, (.ptr 1 0 0)), (6, (.d (intD (k : Int))))], [(1, [prbB2 25 p])]⟩) (fun k => k ≤ l.length ∧ E0 = fst0 (((List.range l.length).drop k).map (chErr (p.it.map Itm.id) l))) (fun k => l.length - k) (0) (⟨Nat.zero_le _, hE0.symm⟩) (lep_of hF [1] rfl rfl ⟨rfl, rfl, rfl, trivial⟩) ?_
    rintro k ⟨hk0, hk⟩
    refine a_seq ?_
    refine a_seq ?_
    refine a_region ?_
    refine Pstep.go (st_move rfl rfl) ?_
    refine Pstep.go (st_move rfl rfl) ?_
    refine Pstep.go (st_lenMap rfl Tryz.underlying26 rfl) ?_
    refine Pstep.go (st_lss rfl rfl rfl) ?_
    refine o_nil ?_
    refine a_if rfl (fun h15 => ?_) (fun h15 => ?_)
    · have hk1 : k < l.length := lt_cast h15
      refine a_skip ?_
      refine a_seq ?_
      refine a_block ?_
      refine a_seq ?_
      refine a_seq ?_
      refine a_drawn [[], [], [], [1, 2], [1, 2, 3], [0, 1, 2, 3, 4], [0, 1, 2, 3, 4, 5]] mixed rfl ?_
      refine dws ?_
      have hEc := range_cases hk1 hk
      have hgd := getD_at 0 hk1
      refine d_pureA [2] rfl rfl (fun _ => gp_none (st_loadPS rfl rfl rw25 rfl rfl rfl)) ?_
      refine d_pure [1] [] rfl rfl (fun _ => gp_none (st_move rfl rfl)) ?_
      refine d_pure [6] [] rfl rfl (fun _ => gp_none (st_move rfl rfl)) ?_
      refine d_pure [19, 20] [] rfl rfl (fun _ => gp_none (st_indexD (k) rfl rfl (rfl) (getm hk1) Tryz.underlying26 rfl sz3 rfl)) ?_
      refine d_pure [21] [] rfl rfl (fun _ => gp_none (st_loadD1 rfl rfl on3 rfl)) ?_
      refine dwc 5 rfl rfl rfl ?_
      refine dw1 6 rfl rfl ?_
      refine Pstep.go (st_callP (find_p p l[k] (by omega)) rfl rfl) ?_
      refine o_nil ⟨rfl, ?_⟩
      refine dw1 7 rfl rfl ?_
      refine Pstep.go (st_lss rfl rfl rfl) ?_
      refine o_nil ⟨rfl, ?_⟩
      refine dwe ?_
      refine a_if rfl (fun h24 => ?_) (fun h24 => ?_)
      · refine a_seq ?_
        refine a_region ?_
        refine Pstep.go (st_assign rfl rfl) ?_
        refine o_nil ?_
        refine a_ret ?_
        exact ⟨_, [], [], res_of rfl, rfl, rfl, retI (hEc.2 9 (by unfold chErr; rw [hgd, if_pos (ixI_neg h24)]) (by decide)), rfl⟩
      · refine a_skip ?_
        refine a_seq ?_
        refine a_drawn [[], [], [0, 1], [], [], [3, 4], [3, 4, 5], [0, 1, 2, 3, 4, 5, 6]] mixed rfl ?_
        refine dws ?_
        refine d_pure [1] [] rfl rfl (fun _ => gp_none (st_move rfl rfl)) ?_
        refine d_pure [6] [] rfl rfl (fun _ => gp_none (st_move rfl rfl)) ?_
        refine d_pure [25, 26] [] rfl rfl (fun _ => gp_none (st_sliceHiM (l) (k) rfl rfl rfl (rfl) (by omega) Tryz.underlying26 sz3 (fun _ => rfl) rfl)) ?_
        refine d_pure [1] [] rfl rfl (fun _ => gp_none (st_move rfl rfl)) ?_
        refine d_pure [6] [] rfl rfl (fun _ => gp_none (st_move rfl rfl)) ?_
        refine d_pure [28, 29] [] rfl rfl (fun _ => gp_none (st_indexD (k) rfl rfl (rfl) (getm hk1) Tryz.underlying26 rfl sz3 rfl)) ?_
        refine d_pure [30] [] rfl rfl (fun _ => gp_none (st_loadD1 rfl rfl on3 rfl)) ?_
        refine dwc 7 rfl rfl rfl ?_
        refine dw1 8 rfl rfl ?_
        refine Pstep.go (st_callP (in29_p (l.take k) l[k] (by rw [List.length_take]; omega)) rfl rfl) ?_
        refine o_nil ⟨rfl, ?_⟩
        refine dwe ?_
        refine a_if rfl (fun h32 => ?_) (fun h32 => ?_)
        · refine a_seq ?_
          refine a_region ?_
          refine Pstep.go (st_assign rfl rfl) ?_
          refine o_nil ?_
          refine a_ret ?_
          exact ⟨_, [], [], res_of rfl, rfl, rfl, retI (hEc.2 7 (by unfold chErr; rw [hgd, if_neg (fun h => h (ixI_nn (by omega))), if_pos h32]) (by decide)), rfl⟩
        · refine a_skip ?_
          refine a_region ?_
          refine Pstep.go (st_move rfl rfl) ?_
          refine Pstep.go (st_add rfl rfl (wrapS (k + 1) (by omega)) rfl) ?_
          refine Pstep.go (st_assign rfl rfl) ?_
          refine o_nil ?_
          exact ⟨k + 1, ⟨by show k + 1 ≤ _; omega, hEc.1 (by unfold chErr; rw [hgd, if_neg (fun h => h (ixI_nn (by omega))), if_neg h32])⟩, by show l.length - (k + 1) < l.length - k; omega, lep_of hF [1] rfl (rfl) ⟨rfl, rfl, rfl, trivial⟩⟩
    · refine a_exit ?_
      refine a_seq ?_
      refine a_region ?_
      refine Pstep.go (st_assign rfl rfl) ?_
      refine o_nil ?_
      refine a_ret ?_
      exact ⟨_, [], [], res_of rfl, rfl, rfl, retI (by rw [hk, List.drop_of_length_le (by have h := h15; simp only [List.length_range]; omega)]; rfl), rfl⟩
  · have hC : choE p l = prbE p := if_pos h0
    rw [hC]
    refine a_enter Tryz.func18 rfl rfl Tryz.ntmps18 rfl rfl rfl fun F hF => ?_
    refine a_seq ?_
    refine a_region ?_
    refine Estep.go (st_box 1 rfl rfl rfl rfl rfl rfl rfl) ?_
    refine Pstep.go (st_assign rfl rfl) ?_
    refine o_nil ?_
    refine a_seq ?_
    refine a_seq ?_
    refine a_region ?_
    refine Pstep.go (st_loadPS rfl rfl rw25 rfl rfl rfl) ?_
    refine Pstep.go (st_callP (hck) rfl rfl) ?_
    refine Pstep.go (st_assign rfl rfl) ?_
    refine o_nil ?_
    refine a_seq ?_
    refine a_region ?_
    refine Pstep.go (st_move rfl rfl) ?_
    refine Pstep.go (st_neq rfl rfl rfl) ?_
    refine o_nil ?_
    refine a_true rfl ((decide_eq_true h0)) ?_
    refine a_seq ?_
    refine a_region ?_
    refine Pstep.go (st_move rfl rfl) ?_
    refine Pstep.go (st_assign rfl rfl) ?_
    refine o_nil ?_
    refine a_ret ?_
    exact ⟨_, [], [], res_of rfl, rfl, rfl, rfl, rfl⟩
/-- A valid problem, small enough for the references. -/
structure PV (p : Prb) : Prop where
  e : prbE p = 0
  b : PrbB p
  i : p.it.length ≤ 1000
  r : p.ro.length ≤ 1000
  q : ∀ i ∈ p.it, i.po.length ≤ 1000 ∧ i.pa.length ≤ 1000 ∧ i.af.length ≤ 1000
theorem blk1_in {p : Prb} {f : Int → Bool} {i : Int} (h : f i = true) : blk1 p f i = blkF f (req p i) := if_pos h
theorem blk1_out {p : Prb} {f : Int → Bool} {i : Int} (h : ¬ f i = true) : blk1 p f i = [] := if_neg h
set_option maxRecDepth 100000 in
theorem blocks29_p (p : Prb) (l : List Int) (hv : PV p) (hl : l.length ≤ 100000) : PCalls Tryz.prog 22 [.d (prbD p), .d (.sl none (l.map intD))] (.sl none ((blks p (inL l)).map bkdD)) := by
  have hO : ordP p = sortO p.it := if_pos hv.e
  have h1 := hv.i
  have hso := refsorted_p p.it h1
  have hmm := fun x hx => missing29_p p l x hv.e hv.b h1 hv.r hv.q hl hx
  have hrl := fun i => req_len hv.b h1 hv.r i
  have hms : ∀ x ∈ sortO p.it, x ∈ p.it := fun x hx => (sortO_perm p.it).mem_iff.1 hx
  have hsl := sortO_len p.it
  have hbs : blks p (inL l) = (sortO p.it).flatMap fun x => blk1 p (inL l) x.id := by unfold blks ordI_ids; rw [hO, List.flatMap_map]
  rw [hbs]
  obtain ⟨S, hS⟩ : ∃ S, sortO p.it = S := ⟨_, rfl⟩
  rw [hS] at hso hms hsl ⊢
  refine a_enter Tryz.func22 rfl rfl Tryz.ntmps22 rfl rfl rfl fun F hF => ?_
  refine a_seq ?_
  refine a_region ?_
  refine Estep.go (st_box 1 rfl rfl rfl rfl rfl rfl rfl) ?_
  refine Pstep.go (st_assign rfl rfl) ?_
  refine o_nil ?_
  refine a_seq ?_
  refine a_region ?_
  refine Pstep.go (st_assign rfl rfl) ?_
  refine o_nil ?_
  refine a_seq ?_
  refine a_adopt 5 900 sl42 rfl rfl rfl rfl ?_
  refine a_region ?_
  refine Pstep.go (st_fieldP rfl fi25_1 rfl rfl rfl) ?_
  refine Pstep.go (st_loadP rfl rfl rfl on23 rfl) ?_
  refine Pstep.go (st_callP (hso) rfl rfl) ?_
  refine Pstep.go (st_assign rfl rfl) ?_
  refine o_nil ?_
  refine a_seq ?_
  refine a_seq ?_
  refine a_region ?_
  refine Pstep.go (st_assign rfl rfl) ?_
  refine o_nil ?_
  refine a_block ?_
  refine a_loopP (α := Nat × List Bkd) (fun q => ⟨34, [(1, .d (.sl none (l.map intD))), (2, (.ptr 1 0 0)), (5, (.own 900 0 q.2.length)), (6, (.d (.sl none (S.map itmD)))), (7, (.d (intD (q.1 : Int))))], [(900, [.rowD 54 8 (q.2.map bkdD)]), (1, [prbB2 25 p])]⟩) (fun q => q.1 ≤ S.length ∧ q.2 = (S.take q.1).flatMap (fun x => blk1 p (inL l) x.id) ∧ q.2.length ≤ q.1 * 1100000) (fun q => S.length - q.1) ((0, [])) (⟨Nat.zero_le _, rfl, Nat.le_refl _⟩) (lep_of hF [900, 1] rfl rfl ⟨rfl, rfl, rfl, rfl, rfl, trivial⟩) ?_
  rintro ⟨k, acc⟩ ⟨hk0, hA, hL⟩
  dsimp only at hk0 hA hL ⊢
  refine a_seq ?_
  refine a_seq ?_
  refine a_region ?_
  refine Pstep.go (st_move rfl rfl) ?_
  refine Pstep.go (st_move rfl rfl) ?_
  refine Pstep.go (st_lenMap rfl Tryz.underlying23 rfl) ?_
  refine Pstep.go (st_lss rfl rfl rfl) ?_
  refine o_nil ?_
  refine a_if rfl (fun h14 => ?_) (fun h14 => ?_)
  · have hk1 : k < S.length := lt_cast h14
    refine a_skip ?_
    refine a_seq ?_
    refine a_block ?_
    refine a_seq ?_
    refine a_region ?_
    refine Pstep.go (st_move rfl rfl) ?_
    refine Pstep.go (st_move rfl rfl) ?_
    refine Pstep.go (st_move rfl rfl) ?_
    refine Pstep.go (st_indexD (k) rfl rfl (rfl) (getm hk1) Tryz.underlying23 rfl sz80 rfl) ?_
    refine Pstep.go (st_fieldF1 rfl fi80_0 rfl rfl rfl) ?_
    refine Pstep.go (st_loadD1 rfl rfl on3 rfl) ?_
    refine Pstep.go (st_callP (in29_p l S[k].id (by omega)) rfl rfl) ?_
    refine o_nil ?_
    refine a_if rfl (fun h23 => ?_) (fun h23 => ?_)
    · refine a_drawn [[], [], [], [], [], [3, 4], [3, 4, 5], [1, 2, 3, 4, 5, 6], [0, 1, 2, 3, 4, 5, 6, 7], [0, 1, 2, 3, 4, 5, 6, 7, 8]] mixed rfl ?_
      refine dws ?_
      refine d_pure [5] [] rfl rfl (fun _ => gp_none (st_move rfl rfl)) ?_
      refine d_pureA [2] rfl rfl (fun _ => gp_none (st_loadPS rfl rfl rw25 rfl rfl rfl)) ?_
      refine d_pure [1] [] rfl rfl (fun _ => gp_none (st_move rfl rfl)) ?_
      refine d_pure [6] [] rfl rfl (fun _ => gp_none (st_move rfl rfl)) ?_
      refine d_pure [7] [] rfl rfl (fun _ => gp_none (st_move rfl rfl)) ?_
      refine d_pure [27, 28] [] rfl rfl (fun _ => gp_none (st_indexD (k) rfl rfl (rfl) (getm hk1) Tryz.underlying23 rfl sz80 rfl)) ?_
      refine d_pure [29] [] rfl rfl (fun _ => gp_none (st_loadDS rfl rfl rw80 rfl)) ?_
      refine d_pure [25, 26, 30] [] rfl rfl (fun _ => gp_none (st_callP (hmm S[k] (hms _ (List.getElem_mem hk1))) rfl rfl)) ?_
      refine dwc 8 rfl rfl rfl ?_
      refine dw1 9 rfl rfl ?_
      have hrl2 := Nat.le_trans (blkF_len (inL l) _) (hrl S[k].id)
      refine Estep.go (st_appMD (acc) (blkF (inL l) (req p S[k].id)) rfl rfl rfl rfl rfl rfl (fun _ => rfl) sl42 (by omega) rfl rfl rfl rfl) ?_
      refine o_nil ⟨rfl, ?_⟩
      refine dw1 10 rfl rfl ?_
      refine Pstep.go (st_assign rfl rfl) ?_
      refine o_nil ⟨rfl, ?_⟩
      refine dwe ?_
      refine a_region ?_
      refine Pstep.go (st_move rfl rfl) ?_
      refine Pstep.go (st_add rfl rfl (wrapS (k + 1) (by omega)) rfl) ?_
      refine Pstep.go (st_assign rfl rfl) ?_
      refine o_nil ?_
      exact ⟨(k + 1, acc ++ blkF (inL l) (req p S[k].id)), ⟨by show k + 1 ≤ _; omega, by show acc ++ blkF (inL l) (req p S[k].id) = (S.take (k + 1)).flatMap (fun x => blk1 p (inL l) x.id); rw [flat_snoc hk1, ← hA, blk1_in (decide_eq_true h23)], le_step2 hL (Nat.le_trans (blkF_len (inL l) _) (hrl S[k].id))⟩, by show S.length - (k + 1) < S.length - k; omega, lep_of hF [900, 1] rfl (rfl) ⟨rfl, rfl, rfl, rfl, rfl, trivial⟩⟩
    · refine a_skip ?_
      refine a_region ?_
      refine Pstep.go (st_move rfl rfl) ?_
      refine Pstep.go (st_add rfl rfl (wrapS (k + 1) (by omega)) rfl) ?_
      refine Pstep.go (st_assign rfl rfl) ?_
      refine o_nil ?_
      exact ⟨(k + 1, acc), ⟨by show k + 1 ≤ _; omega, by show acc = (S.take (k + 1)).flatMap (fun x => blk1 p (inL l) x.id); rw [flat_snoc hk1, ← hA, blk1_out (by unfold inL; simpa using h23), List.append_nil], le_step hL⟩, by show S.length - (k + 1) < S.length - k; omega, lep_of hF [900, 1] rfl (rfl) ⟨rfl, rfl, rfl, rfl, rfl, trivial⟩⟩
  · refine a_exit ?_
    refine a_seq ?_
    have hfa : acc = S.flatMap (fun x => blk1 p (inL l) x.id) := by rw [hA, List.take_of_length_le (by have h := h14; omega)]
    refine a_freezeM (emb := bkdD) 5 900 acc rfl rfl rfl rfl rfl rfl rfl ?_
    refine a_region ?_
    refine Pstep.go (st_move rfl rfl) ?_
    refine Pstep.go (st_assign rfl rfl) ?_
    refine o_nil ?_
    refine a_ret ?_
    exact ⟨_, [], [], res_of rfl, rfl, rfl, by rw [hfa], rfl⟩
end Go.Proofs.YtnamabifclidmaaGreat
/- Layer 29: problems with few items. -/
namespace Go.Proofs.YtnamabifclidmaaGreat
open Go.RowKit

abbrev u32D (n : Nat) : D := .raw (.int .u32 (n : Int))
structure Sma where
  ids : List Int
  bl : List Nat
  de : List (List Int)
  rm : List Int
abbrev rowZ (l : List Int) : D := .sl none (l.map intD)
abbrev smaD (s : Sma) : D := .agg [.sl none (s.ids.map intD), .sl none (s.bl.map u32D), .sl none (s.de.map rowZ), .sl none (s.rm.map intD)]
/-- The set's items that need what is not in it. -/
def badS (s : Sma) (x : Nat) (i : Nat) : Bool := x.testBit i && decide (anU (s.bl.getD i 0) x ≠ 0)
def admS (s : Sma) (x : Nat) : Bool := !(List.range s.bl.length).any (badS s x)
theorem any_no {n k : Nat} {p : Nat → Bool} (h : ∀ i, i < k → p i = false) (hk : ¬ k < n) : (List.range n).any p = false := by
  rw [List.any_eq_false]; intro i hi; rw [h i (by have := List.mem_range.1 hi; omega)]; simp
theorem any_yes {n k : Nat} {p : Nat → Bool} (hk : k < n) (h : p k = true) : (List.range n).any p = true := List.any_eq_true.2 ⟨k, List.mem_range.2 hk, h⟩
theorem bit_no {a i : Nat} (h : ¬ ((((a >>> i) % 2 : Nat) : Int) = 1)) : a.testBit i = false := by
  cases hh : a.testBit i with
  | false => rfl
  | true => exact absurd ((bit_iff a i).2 hh) h
set_option maxRecDepth 100000 in
theorem admS_p (s : Sma) (x : Nat) (hx : x < 4294967296) (hb : ∀ b ∈ s.bl, b < 4294967296) (hl : s.bl.length ≤ 32) : PCalls Tryz.prog 87 [.d (.ptr (smaD s)), .d (u32D x)] (boolD (admS s x)) := by
  refine a_enter Tryz.func87 rfl rfl Tryz.ntmps87 rfl rfl rfl fun F hF => ?_
  refine a_seq ?_
  refine a_region ?_
  refine Pstep.go (st_assign rfl rfl) ?_
  refine o_nil ?_
  refine a_seq ?_
  refine a_seq ?_
  refine a_region ?_
  refine Pstep.go (st_move rfl rfl) ?_
  first | refine Pstep.go (st_nilCheckP rfl rfl) ?_ | refine Pstep.go (st_nilCheckD rfl rfl) ?_ | refine Pstep.go (st_nilCheckR rfl rfl) ?_
  first | refine Pstep.go (st_fieldP rfl fi170_1 rfl rfl rfl) ?_ | refine Pstep.go (st_fieldF1 rfl fi170_1 rfl rfl rfl) ?_ | refine Pstep.go (st_fieldFS rfl fi170_1 rfl rfl rfl) ?_ | refine Pstep.go (st_fieldR rfl fi170_1 rfl rfl rfl) ?_
  first | refine Pstep.go (st_loadD1 rfl rfl on166 rfl) ?_ | refine Pstep.go (st_loadP rfl rfl rfl on166 rfl) ?_ | refine Pstep.go (st_loadR rfl rfl (rfl) rfl on166 rfl) ?_
  first | refine Pstep.go (st_lenMap rfl Tryz.underlying166 rfl) ?_ | refine Pstep.go (st_lenD rfl rfl Tryz.underlying166 rfl) ?_ | refine Pstep.go (st_lenO rfl Tryz.underlying166 rfl) ?_ | refine Pstep.go (st_lenSL rfl Tryz.underlying166 rfl) ?_ | refine Pstep.go (st_lenS rfl Tryz.underlying166 rfl) ?_
  refine Pstep.go (st_move rfl rfl) ?_
  refine o_nil ?_
  refine a_block ?_
  refine a_loop (α := Nat) (fun k => ⟨29, [(1, .d (u32D x)), (10, (.d (.sl none (s.bl.map u32D)))), (11, (.d (intD (s.bl.length : Int)))), (12, (.d (intD (k : Int))))], []⟩) (fun k => k ≤ s.bl.length ∧ ∀ i, i < k → badS s x i = false) (fun k => s.bl.length - k) (0) (⟨Nat.zero_le _, fun i h => by omega⟩) (le_of_has ⟨rfl, rfl, rfl, rfl, trivial⟩) ?_
  rintro k ⟨hk0, hk⟩
  refine a_seq ?_
  refine a_region ?_
  first | refine Pstep.go (st_lss rfl rfl rfl) ?_ | refine Pstep.go (st_lssS rfl rfl rfl) ?_
  refine o_nil ?_
  refine a_seq ?_
  first | refine a_if rfl (fun h13 => ?_) (fun h13 => ?_) | refine a_cond rfl (fun h13 => ?_) (fun h13 => ?_)
  · have hk1 : k < s.bl.length := lt_cast h13
    refine a_skip ?_
    refine a_seq ?_
    refine a_block ?_
    refine a_seq ?_
    refine a_region ?_
    refine Pstep.go (st_move rfl rfl) ?_
    have hgd := getD_at 0 hk1
    have hbk := hb _ (List.getElem_mem hk1)
    first | refine Pstep.go (st_indexD (k) rfl rfl (rfl) (getm hk1) Tryz.underlying166 rfl sz65 rfl) ?_ | refine Pstep.go (st_indexO (k) rfl rfl (rfl) (getm hk1) rfl Tryz.underlying166 sz65 rfl) ?_
    first | refine Pstep.go (st_loadD1 rfl rfl on65 rfl) ?_ | refine Pstep.go (st_loadP rfl rfl rfl on65 rfl) ?_ | refine Pstep.go (st_loadR rfl rfl (rfl) rfl on65 rfl) ?_
    refine Pstep.go (st_assign rfl rfl) ?_
    refine Pstep.go (st_assign rfl rfl) ?_
    refine o_nil ?_
    refine a_seq ?_
    refine a_region ?_
    refine Pstep.go (st_move rfl rfl) ?_
    refine Pstep.go (st_move rfl rfl) ?_
    refine Pstep.go (st_shr rfl rfl (by omega) (shrU x k (by omega)) rfl) ?_
    refine Pstep.go (st_bits rfl rfl rfl (and1U (shr_lt hx k)) rfl) ?_
    first | refine Pstep.go (st_eql rfl rfl rfl) ?_ | refine Pstep.go (st_eqlSL rfl rfl rfl) ?_ | refine Pstep.go (st_eqlS rfl rfl rfl) ?_ | refine Pstep.go (st_eqlB Tryz.underlying65 rfl rfl rfl) ?_ | refine Pstep.go (st_eqlP Tryz.underlying65 rfl rfl rfl) ?_ | refine Pstep.go (st_eqlN Tryz.underlying65 rfl rfl) ?_ | refine Pstep.go (st_eqlF Tryz.underlying65 rfl rfl rfl) ?_ | refine Pstep.go (st_eqlFN Tryz.underlying65 rfl rfl) ?_
    refine Pstep.go (st_move rfl rfl) ?_
    first | refine o_splitP 22 rfl (fun h22 => ?_) (fun h22 => ?_) | refine o_splitB 22 rfl (fun h22 => ?_) (fun h22 => ?_)
    · refine o_run rfl rfl rfl ?_
      refine Pstep.go (st_move rfl rfl) ?_
      refine o_run rfl rfl rfl ?_
      refine Pstep.go (st_move rfl rfl) ?_
      refine o_run rfl rfl rfl ?_
      refine Pstep.go (st_bits rfl rfl rfl (andNotU s.bl[k] x) rfl) ?_
      refine o_run rfl rfl rfl ?_
      first | refine Pstep.go (st_neq rfl rfl rfl) ?_ | refine Pstep.go (st_neqSL rfl rfl rfl) ?_ | refine Pstep.go (st_neqS rfl rfl rfl) ?_ | refine Pstep.go (st_neqB Tryz.underlying65 rfl rfl rfl) ?_ | refine Pstep.go (st_neqP Tryz.underlying65 rfl rfl rfl) ?_ | refine Pstep.go (st_neqN Tryz.underlying65 rfl rfl) ?_ | refine Pstep.go (st_neqF Tryz.underlying65 rfl rfl rfl) ?_ | refine Pstep.go (st_neqFN Tryz.underlying65 rfl rfl) ?_
      refine Pstep.go (st_pickT rfl rfl rfl rfl) ?_
      refine o_nil ?_
      first | refine a_if rfl (fun h27 => ?_) (fun h27 => ?_) | refine a_cond rfl (fun h27 => ?_) (fun h27 => ?_)
      · refine a_seq ?_
        refine a_region ?_
        refine Pstep.go (st_assign rfl rfl) ?_
        refine o_nil ?_
        refine a_ret ?_
        exact ⟨_, [], [], res_of rfl, rfl, rfl, retB3 (by unfold admS; rw [any_yes hk1 (by unfold badS; rw [hgd, (bit_iff x k).1 h22, Bool.true_and]; exact decide_eq_true (fun h5 => h27 (by rw [h5]; rfl)))]; rfl), rfl⟩
      · refine a_skip ?_
        refine a_region ?_
        have hbad : badS s x k = false := by unfold badS; first | (have h6 : ((anU s.bl[k] x : Nat) : Int) = 0 := Decidable.not_not.1 h27; rw [hgd]; have h3 : anU s.bl[k] x = 0 := Int.ofNat.inj h6; rw [h3]; simp; done) | (rw [bit_no h22]; rfl)
        refine Pstep.go (st_add rfl rfl (wrapS (k + 1) (by omega)) rfl) ?_
        refine Pstep.go (st_move rfl rfl) ?_
        refine o_nil ?_
        exact ⟨k + 1, ⟨by show k + 1 ≤ _; omega, fun i hi => by rcases Nat.lt_or_ge i k with h | h; exact hk i h; have e : i = k := by { omega }; subst e; exact hbad⟩, by show s.bl.length - (k + 1) < s.bl.length - k; omega, ⟨rfl, rfl, fun _ _ => Has.get (l := [(1, _), (10, _), (11, _), (12, _)]) ⟨rfl, rfl, rfl, rfl, trivial⟩⟩⟩
    · refine o_pass rfl rfl rfl rfl ?_
      refine o_pass rfl rfl rfl rfl ?_
      refine o_pass rfl rfl rfl rfl ?_
      refine o_pass rfl rfl rfl rfl ?_
      refine Pstep.go (st_pickF rfl rfl rfl rfl) ?_
      refine o_nil ?_
      refine a_false rfl rfl ?_
      refine a_skip ?_
      refine a_region ?_
      have hbad : badS s x k = false := by unfold badS; first | (have h6 : ((anU s.bl[k] x : Nat) : Int) = 0 := Decidable.not_not.1 h27; rw [hgd]; have h3 : anU s.bl[k] x = 0 := Int.ofNat.inj h6; rw [h3]; simp; done) | (rw [bit_no h22]; rfl)
      refine Pstep.go (st_add rfl rfl (wrapS (k + 1) (by omega)) rfl) ?_
      refine Pstep.go (st_move rfl rfl) ?_
      refine o_nil ?_
      exact ⟨k + 1, ⟨by show k + 1 ≤ _; omega, fun i hi => by rcases Nat.lt_or_ge i k with h | h; exact hk i h; have e : i = k := by { omega }; subst e; exact hbad⟩, by show s.bl.length - (k + 1) < s.bl.length - k; omega, ⟨rfl, rfl, fun _ _ => Has.get (l := [(1, _), (10, _), (11, _), (12, _)]) ⟨rfl, rfl, rfl, rfl, trivial⟩⟩⟩
  · refine a_exit ?_
    refine a_seq ?_
    refine a_region ?_
    refine Pstep.go (st_assign rfl rfl) ?_
    refine o_nil ?_
    refine a_ret ?_
    exact ⟨_, [], [], res_of rfl, rfl, rfl, retB3 (by unfold admS; rw [any_no hk (by have h := h13; omega)]; rfl), rfl⟩
end Go.Proofs.YtnamabifclidmaaGreat
