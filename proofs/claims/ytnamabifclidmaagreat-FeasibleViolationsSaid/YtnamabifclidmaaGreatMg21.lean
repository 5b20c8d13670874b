/- Layer 29: overdrawn resources; the package's functions. -/
import Derived.Test.YtnamabifclidmaaGreatMg20
namespace Go.Proofs.YtnamabifclidmaaGreat
open Go.RowKit

def vioS (p : Prb) (r : Rsc) (l : List (Int × Bool)) : Int := (l.map fun e => if e.2 = true then dltE (itmOf p e.1) r else 0).sum
theorem vioS_perm {p : Prb} {r : Rsc} {l m : List (Int × Bool)} (h : l.Perm m) : vioS p r l = vioS p r m := perm_sum h _
theorem vioS_cons (p : Prb) (r : Rsc) (e : Int × Bool) (l : List (Int × Bool)) : vioS p r (e :: l) = (if e.2 = true then dltE (itmOf p e.1) r else 0) + vioS p r l := by simp [vioS]
theorem vioS_cons' (p : Prb) (r : Rsc) (k : Int) (v : Bool) (l : List (Int × Bool)) : vioS p r ((k, v) :: l) = (if v = true then dltE (itmOf p k) r else 0) + vioS p r l := vioS_cons p r (k, v) l
theorem choE_prb {p : Prb} {l : List Int} (h : choE p l = 0) : prbE p = 0 := by
  unfold choE at h; split at h
  · exact h
  · rename_i hn; simpa using hn
theorem retT2 {a b : Bool} {x : D} (h : a = b) : AV.d (.tup [.raw (.bool a), x]) = .d (.tup [.raw (.bool b), x]) := by rw [h]
theorem dltE_b (i : Itm) (r : Rsc) : -1000000000000000 ≤ dltE i r ∧ dltE i r ≤ 1000000000000000 := by
  unfold dltE
  split
  · rename_i h; simpa [Mx] using bnd_sum h.1 r
  · omega
theorem vioS_b (p : Prb) (r : Rsc) {l : List (Int × Bool)} (h : l.length ≤ 1000) : -1000000000000000000 ≤ vioS p r l ∧ vioS p r l ≤ 1000000000000000000 := by
  have := sum_bound (l := l) (f := fun e => if e.2 = true then dltE (itmOf p e.1) r else 0) (B := 1000000000000000) (fun e _ => by
    show _ ≤ (if e.2 = true then _ else _) ∧ _
    have := dltE_b (itmOf p e.1) r
    split <;> omega) 1000 h (by omega)
  unfold vioS; omega
def vio1 (p : Prb) (M : List (Int × Bool)) (x : Lin) : List Roo := if x.n + vioS p x.r M < 0 then [⟨x.r, 0 - (x.n + vioS p x.r M)⟩] else []
def viol (p : Prb) (M : List (Int × Bool)) : List Roo := (linL p).flatMap (vio1 p M)
theorem vio1_len (p : Prb) (M : List (Int × Bool)) (x : Lin) : (vio1 p M x).length ≤ 1 := by unfold vio1; split <;> simp
theorem linL_n {p : Prb} (hp : prbE p = 0) (x : Lin) (hx : x ∈ linL p) : 0 ≤ x.n ∧ x.n ≤ 4000000000000000 := by
  unfold linL at hx
  obtain ⟨y, hy, rfl⟩ := List.mem_map.1 hx
  have := rooms_amt (prb_ok hp).1 y ((linR_perm p.ro).mem_iff.1 hy)
  show 0 ≤ max y.n 0 ∧ max y.n 0 ≤ _
  omega
abbrev HM3 (p : Prb) (mv : Nat) (M : List (Int × Bool)) : Hp := HA p ++ [(12, [mapC intD boolD M]), (13, [.addr 12 0 (.map (some mv))])]
set_option maxRecDepth 100000 in
theorem violations_c (p : Prb) (mv : Nat) (M : List (Int × Bool)) (hp : prbE p = 0) (hb : PrbB p) (hM : M.length ≤ 1000) : ACalls Tryz.prog 47 [.ptr 10 0 0, mapV mv] (HM3 p mv M) fun r H' => r = .d (.sl none ((viol p M).map rooD)) ∧ H' = HM3 p mv M := by
  have hb1 := hb.1
  have hLl := linL_len p
  refine a_enter Tryz.func47 rfl rfl Tryz.ntmps47 rfl rfl rfl fun F hF => ?_
  refine a_seq ?_
  refine a_region ?_
  refine Pstep.go (st_assign rfl rfl) ?_
  refine o_nil ?_
  refine a_seq ?_
  refine a_region ?_
  refine Pstep.go (st_assign rfl rfl) ?_
  refine o_nil ?_
  refine a_seq ?_
  refine a_seq ?_
  refine a_adopt 5 900 sl56 rfl rfl rfl rfl ?_
  refine a_region ?_
  refine Pstep.go (st_move rfl rfl) ?_
  refine Pstep.go (st_nilCheckP rfl rfl) ?_
  refine Pstep.go (st_fieldP rfl fi154_2 rfl rfl rfl) ?_
  refine Pstep.go (st_loadP rfl rfl rfl on152 rfl) ?_
  refine Pstep.go (st_lenMap rfl Tryz.underlying152 rfl) ?_
  refine Pstep.go (st_move rfl rfl) ?_
  refine o_nil ?_
  refine a_block ?_
  refine a_loopP (α := Nat × List Roo) (fun q => ⟨53, [(0, .ptr 10 0 0), (1, mapV mv), (5, (.own 900 0 q.2.length)), (14, (.d (.sl none ((linL p).map linD)))), (15, (.d (intD ((linL p).length : Int)))), (16, (.d (intD (q.1 : Int))))], HM3 p mv M ++ [(900, [.rowD 62 7 (q.2.map rooD)])]⟩) (fun q => q.1 ≤ (linL p).length ∧ q.2 = ((linL p).take q.1).flatMap (vio1 p M) ∧ q.2.length ≤ q.1) (fun q => (linL p).length - q.1) ((0, [])) (⟨Nat.zero_le _, rfl, Nat.le_refl _⟩) (lep_of hF [10, 11, 12, 13, 900] rfl rfl ⟨rfl, rfl, rfl, rfl, rfl, rfl, trivial⟩) ?_
  rintro ⟨k, acc⟩ ⟨hk0, hA, hL⟩
  dsimp only at hk0 hA hL ⊢
  refine a_seq ?_
  refine a_region ?_
  refine Pstep.go (st_lss rfl rfl rfl) ?_
  refine o_nil ?_
  refine a_seq ?_
  refine a_if rfl (fun h17 => ?_) (fun h17 => ?_)
  · have hk1 : k < (linL p).length := lt_cast h17
    refine a_skip ?_
    refine a_seq ?_
    refine a_block ?_
    refine a_seq ?_
    refine a_region ?_
    have hxn := linL_n hp _ (List.getElem_mem hk1)
    refine Pstep.go (st_indexD (k) rfl rfl (rfl) (getm hk1) Tryz.underlying152 rfl sz157 rfl) ?_
    refine Pstep.go (st_loadDS rfl rfl rw157 rfl) ?_
    refine Estep.go (st_alloc 1 zl157 rfl rfl rfl rfl) ?_
    refine Estep.go (st_storeP rfl rfl rfl rfl rfl rfl rfl sz157) ?_
    refine o_nil ?_
    refine a_seq ?_
    refine a_region ?_
    refine Pstep.go (st_fieldP rfl fi157_1 rfl rfl rfl) ?_
    refine Pstep.go (st_loadP rfl rfl rfl on2 rfl) ?_
    refine Pstep.go (st_assign rfl rfl) ?_
    refine o_nil ?_
    refine a_seq ?_
    refine a_seq ?_
    refine a_region ?_
    refine Pstep.go (st_move rfl rfl) ?_
    refine o_rawMap 22 13 0 rfl rfl ?_
    refine Estep.go (st_range 2 rfl rfl rfl mt108 rfl rfl rfl rfl) ?_
    refine o_nil ?_
    refine a_block ?_
    refine a_loopP (α := List Nat × Int) (fun q => ⟨53, [(0, .ptr 10 0 0), (1, mapV mv), (5, (.own 900 0 acc.length)), (7, (.ptr 1 0 0)), (8, (.d (intD q.2))), (14, (.d (.sl none ((linL p).map linD)))), (15, (.d (intD ((linL p).length : Int)))), (16, (.d (intD (k : Int)))), (23, (.ptr 2 0 0))], HM3 p mv M ++ [(900, [.rowD 62 7 (acc.map rooD)]), (1, [.blk 157 [.d (intD (linL p)[k].r.k), .d (strD (linL p)[k].r.acc.o), .d (intD (linL p)[k].r.acc.k), .d (strD (linL p)[k].r.acc.a), .d (strD (linL p)[k].r.f), .d (strD (linL p)[k].r.t), .d (intD (linL p)[k].n), .d (.sl none ((linL p)[k].q.map intD))]]), (2, [.iter 12 0 M.length q.1])]⟩) (fun q => q.2 + vioS p (linL p)[k].r (lft M (List.range M.length) q.1) = (linL p)[k].n + vioS p (linL p)[k].r M) (fun q => (lft M (List.range M.length) q.1).length) (([], (linL p)[k].n)) (by show (linL p)[k].n + vioS p (linL p)[k].r (lft M (List.range M.length) []) = _; rw [lft_start (by simp)]) (lep_of hF [10, 11, 12, 13, 900, 1, 2] rfl rfl ⟨rfl, rfl, rfl, rfl, rfl, rfl, rfl, rfl, rfl, trivial⟩) ?_
    rintro ⟨seen, left⟩ hI
    dsimp only at hI ⊢
    refine a_seq ?_
    refine a_region ?_
    refine o_next (M) rfl rfl rfl rfl (fun hl24 => ?_) (fun j24 b24 k24 v24 hm24 hb24 hB24 hp24 => ⟨_, rfl, ?_⟩)
    · have hfin : left = (linL p)[k].n + vioS p (linL p)[k].r M := by have h1 := hI; rw [hl24] at h1; have h2 : vioS p (linL p)[k].r [] = 0 := rfl; omega
      refine Pstep.go (st_extract rfl rfl rfl) ?_
      refine o_nil ?_
      refine a_seq ?_
      refine a_false rfl rfl ?_
      refine a_exit ?_
      refine a_seq ?_
      refine a_region ?_
      refine Pstep.go (st_move rfl rfl) ?_
      refine Pstep.go (st_lss rfl rfl rfl) ?_
      refine o_nil ?_
      refine a_if rfl (fun h42 => ?_) (fun h42 => ?_)
      · refine a_region ?_
        have hv4 := vioS_b p (linL p)[k].r hM
        refine Pstep.go (st_move rfl rfl) ?_
        refine Pstep.go (st_fieldP rfl fi157_0 rfl rfl rfl) ?_
        refine Pstep.go (st_loadPS rfl rfl rw47 rfl rfl rfl) ?_
        refine Pstep.go (st_move rfl rfl) ?_
        refine Pstep.go (st_neg rfl (IntWalk.i64_in _ (by omega)) rfl) ?_
        refine Pstep.go (st_build zl62 pl62 rfl rfl rfl) ?_
        refine Estep.go (st_buildSlice 3 sl56 rfl rfl rfl rfl rfl rfl rfl rfl) ?_
        refine Estep.go (st_appM (acc) ([⟨(linL p)[k].r, 0 - left⟩]) rfl rfl rfl rfl rfl rfl rfl rfl sl56 (by simp only [List.length_singleton]; omega) rfl rfl rfl rfl) ?_
        refine Pstep.go (st_assign rfl rfl) ?_
        refine o_nil ?_
        refine a_region ?_
        refine Pstep.go (st_add rfl rfl (wrapS (k + 1) (by omega)) rfl) ?_
        refine Pstep.go (st_move rfl rfl) ?_
        refine o_nil ?_
        exact ⟨(k + 1, acc ++ [⟨(linL p)[k].r, 0 - left⟩]), ⟨by show k + 1 ≤ _; omega, by show acc ++ [⟨(linL p)[k].r, 0 - left⟩] = ((linL p).take (k + 1)).flatMap (vio1 p M); rw [flat_snoc hk1, ← hA]; unfold vio1; rw [← hfin, if_pos (by simpa using h42)], by show (acc ++ [_]).length ≤ k + 1; rw [List.length_append]; simp; omega⟩, by show (linL p).length - (k + 1) < (linL p).length - k; omega, lep_of hF [10, 11, 12, 13, 900] rfl (rfl) ⟨rfl, rfl, rfl, rfl, rfl, rfl, trivial⟩⟩
      · refine a_skip ?_
        refine a_region ?_
        refine Pstep.go (st_add rfl rfl (wrapS (k + 1) (by omega)) rfl) ?_
        refine Pstep.go (st_move rfl rfl) ?_
        refine o_nil ?_
        exact ⟨(k + 1, acc), ⟨by show k + 1 ≤ _; omega, by show acc = ((linL p).take (k + 1)).flatMap (vio1 p M); rw [flat_snoc hk1, ← hA]; unfold vio1; rw [← hfin, if_neg (by simpa using h42), List.append_nil], by show acc.length ≤ k + 1; omega⟩, by show (linL p).length - (k + 1) < (linL p).length - k; omega, lep_of hF [10, 11, 12, 13, 900] rfl (rfl) ⟨rfl, rfl, rfl, rfl, rfl, rfl, trivial⟩⟩
    · refine Pstep.go (st_extract rfl rfl rfl) ?_
      refine o_nil ?_
      refine a_seq ?_
      refine a_true rfl rfl ?_
      refine a_skip ?_
      refine a_block ?_
      refine a_seq ?_
      refine a_region ?_
      refine Pstep.go (st_entry (M) j24 b24 rfl rfl rfl hm24 hb24 rfl) ?_
      refine Pstep.go (st_extract rfl rfl rfl) ?_
      refine Pstep.go (st_extract rfl rfl rfl) ?_
      refine Pstep.go (st_assign rfl rfl) ?_
      refine Pstep.go (st_assign rfl rfl) ?_
      refine o_nil ?_
      refine a_seq ?_
      refine a_region ?_
      refine Pstep.go (st_move rfl rfl) ?_
      refine o_nil ?_
      refine a_cond rfl (fun h29 => ?_) (fun h29 => ?_)
      · refine a_drawn [[], [], [1], [1, 2], [1, 2, 3], [], [1, 2, 3, 4, 5], [], [7], [1, 2, 3, 4, 5, 6, 7, 8], [0, 1, 2, 3, 4, 5, 6, 7, 8, 9], [0, 1, 2, 3, 4, 5, 6, 7, 8, 9, 10]] mixed rfl ?_
        refine dws ?_
        have hb3 := itmOf_B hb k24
        have hv1 := vioS_b p (linL p)[k].r hM
        have hv2 := vioS_b p (linL p)[k].r (Nat.le_trans (lft_len (m := M) (B := List.range M.length) (seen := seen)) hM)
        have hv3 := dltE_b (itmOf p k24) (linL p)[k].r
        refine d_pure [8] [] rfl rfl (fun _ => gp_none (st_move rfl rfl)) ?_
        refine d_pure [0] [] rfl rfl (fun _ => gp_none (st_move rfl rfl)) ?_
        refine d_pure [31] [] rfl rfl (fun _ => gp_none (st_nilCheckP rfl rfl)) ?_
        refine d_pure [32] [] rfl rfl (fun _ => gp_none (st_fieldP rfl fi154_0 rfl rfl rfl)) ?_
        refine d_pureA [33] rfl rfl (fun _ => gp_none (st_loadP rfl rfl rfl on151 rfl)) ?_
        refine d_pure [9] [] rfl rfl (fun _ => gp_none (st_move rfl rfl)) ?_
        refine d_pureA [34, 35] rfl rfl (fun _ => gp_none (st_lookW (itemsM p.it) k24 itm0 (itmOf p k24) rfl rfl rfl mt151 kt3 za100 itm0_weakD (itmOf_get p k24) rfl)) ?_
        refine d_pure [7] [] rfl rfl (fun _ => gp_none (st_fieldP rfl fi157_0 rfl rfl rfl)) ?_
        refine d_pureA [37] rfl rfl (fun _ => gp_none (st_loadPS rfl rfl rw47 rfl rfl rfl)) ?_
        refine d_pure [36, 38] [] rfl rfl (fun _ => gp_none (st_callP (delta_p (itmOf p k24) (linL p)[k].r (by omega) (by omega) (by omega)) rfl rfl)) ?_
        refine dwc 10 rfl rfl rfl ?_
        refine dw1 11 rfl rfl ?_
        refine Pstep.go (st_add rfl rfl (IntWalk.i64_in _ (by omega)) rfl) ?_
        refine o_nil ⟨rfl, ?_⟩
        refine dw1 12 rfl rfl ?_
        refine Pstep.go (st_assign rfl rfl) ?_
        refine o_nil ⟨rfl, ?_⟩
        refine dwe ?_
        exact ⟨(seen ++ [b24], left + dltE (itmOf p k24) (linL p)[k].r), (by show left + dltE (itmOf p k24) (linL p)[k].r + vioS p (linL p)[k].r (lft M (List.range M.length) (seen ++ [b24])) = _; rw [← hI, vioS_perm hp24, vioS_cons', if_pos (by simpa using h29)]; omega), by show (lft M (List.range M.length) (seen ++ [b24])).length < (lft M (List.range M.length) seen).length; rw [hp24.length_eq]; exact Nat.lt_succ_self _, lep_of hF [10, 11, 12, 13, 900, 1, 2] rfl (rfl) ⟨rfl, rfl, rfl, rfl, rfl, rfl, rfl, rfl, rfl, trivial⟩⟩
      · refine a_skip ?_
        exact ⟨(seen ++ [b24], left), (by show left + vioS p (linL p)[k].r (lft M (List.range M.length) (seen ++ [b24])) = _; rw [← hI, vioS_perm hp24, vioS_cons', if_neg (by simpa using h29)]; omega), by show (lft M (List.range M.length) (seen ++ [b24])).length < (lft M (List.range M.length) seen).length; rw [hp24.length_eq]; exact Nat.lt_succ_self _, lep_of hF [10, 11, 12, 13, 900, 1, 2] rfl (rfl) ⟨rfl, rfl, rfl, rfl, rfl, rfl, rfl, rfl, rfl, trivial⟩⟩
  · refine a_exit ?_
    refine a_seq ?_
    have hfa : acc = viol p M := by rw [hA, List.take_of_length_le (by have h := h17; omega)]; rfl
    refine a_freezeM (emb := rooD) 5 900 acc rfl rfl rfl rfl rfl rfl rfl ?_
    refine a_region ?_
    refine Pstep.go (st_move rfl rfl) ?_
    refine Pstep.go (st_assign rfl rfl) ?_
    refine o_nil ?_
    refine a_ret ?_
    exact ⟨_, [10, 11, 12, 13], _, res_of rfl, rfl, rfl, by rw [hfa], rfl⟩
def inL (l : List Int) (x : Int) : Bool := decide (x ∈ l)
theorem inM_set (l : List Int) : inM (setM l) = inL l := funext fun x => by unfold inM inL; exact setM_get l x
set_option maxRecDepth 100000 in
theorem blocksF_p (p : Prb) (l : List Int) (hb : PrbB p) (hl : l.length ≤ 1000) (h1 : p.it.length ≤ 1000) (h2 : p.ro.length ≤ 1000) : PCalls Tryz.prog 21 [.d (prbD p), .d (.sl none (l.map intD))] (.tup [.sl none ((if choE p l = 0 then blks p (inL l) else []).map bkdD), intD (choE p l)]) := by
  by_cases hE : choE p l = 0
  · have hpr := (prepare_ok p l hb (by omega) hE).by [(2, 12)] rfl
    rw [if_pos hE, hE]
    have hbk := fun mv => blocks_c p mv (some (List.range (setM l).length, (setM l).length)) (setM l) hb h1 h2
    rw [inM_set] at hbk
    refine a_enter Tryz.func21 rfl rfl Tryz.ntmps21 rfl rfl rfl fun F hF => ?_
    refine a_seq ?_
    refine a_region ?_
    refine Estep.go (st_box 1 rfl rfl rfl rfl rfl rfl rfl) ?_
    refine Pstep.go (st_assign rfl rfl) ?_
    refine Pstep.go (st_assign rfl rfl) ?_
    refine o_nil ?_
    refine a_seq ?_
    refine a_region ?_
    refine Pstep.go (st_loadPS rfl rfl rw35 rfl rfl rfl) ?_
    refine Pstep.go (st_move rfl rfl) ?_
    refine Estep.go (st_callD hpr rfl [10, 11, 12] ⟨rfl, rfl, rfl, trivial⟩ rfl rfl rfl rfl rfl rfl rfl rfl rfl) ?_
    refine Pstep.go (st_move rfl rfl) ?_
    refine Pstep.go (st_extract rfl rfl rfl) ?_
    refine Pstep.go (st_extract rfl rfl rfl) ?_
    refine Pstep.go (st_extract rfl rfl rfl) ?_
    refine Pstep.go (st_assign rfl rfl) ?_
    refine Pstep.go (st_assign rfl rfl) ?_
    refine Pstep.go (st_assign rfl rfl) ?_
    refine o_nil ?_
    refine a_seq ?_
    refine a_seq ?_
    refine a_region ?_
    refine Pstep.go (st_move rfl rfl) ?_
    refine Pstep.go (st_neq rfl rfl rfl) ?_
    refine o_nil ?_
    refine a_false rfl ((by decide)) ?_
    refine a_skip ?_
    refine a_seq ?_
    refine a_ghostM 13 12 0 rfl rfl rfl rfl rfl fun mv => ?_
    refine a_toRaw 7 13 0 (.inl rfl) rfl ?_
    refine a_region ?_
    refine Pstep.go (st_move rfl rfl) ?_
    refine Pstep.go (st_move rfl rfl) ?_
    refine Estep.go (st_callD (hbk mv) rfl [10, 11, 12, 13] ⟨rfl, rfl, rfl, rfl, trivial⟩ rfl rfl rfl rfl rfl rfl rfl rfl rfl) ?_
    refine Pstep.go (st_assign rfl rfl) ?_
    refine Pstep.go (st_assign rfl rfl) ?_
    refine o_nil ?_
    refine a_ret ?_
    exact ⟨_, [], [], res_of rfl, rfl, rfl, rfl, rfl⟩
  · have hpr := prepare_bad p l hb (by omega) hE
    rw [if_neg hE]
    refine a_enter Tryz.func21 rfl rfl Tryz.ntmps21 rfl rfl rfl fun F hF => ?_
    refine a_seq ?_
    refine a_region ?_
    refine Estep.go (st_box 1 rfl rfl rfl rfl rfl rfl rfl) ?_
    refine Pstep.go (st_assign rfl rfl) ?_
    refine o_anyNil 4 rfl ?_
    refine Pstep.go (st_assign rfl rfl) ?_
    refine o_nil ?_
    refine a_seq ?_
    refine a_region ?_
    refine Pstep.go (st_loadPS rfl rfl rw35 rfl rfl rfl) ?_
    refine Pstep.go (st_move rfl rfl) ?_
    refine Pstep.go (st_callP (hpr) rfl rfl) ?_
    refine Pstep.go (st_move rfl rfl) ?_
    refine Pstep.go (st_extractD rfl rfl rfl) ?_
    refine Pstep.go (st_extractD rfl rfl rfl) ?_
    refine Pstep.go (st_extractD rfl rfl rfl) ?_
    refine Pstep.go (st_assign rfl rfl) ?_
    refine Pstep.go (st_assign rfl rfl) ?_
    refine Pstep.go (st_assign rfl rfl) ?_
    refine o_nil ?_
    refine a_seq ?_
    refine a_seq ?_
    refine a_region ?_
    refine Pstep.go (st_move rfl rfl) ?_
    refine Pstep.go (st_neq rfl rfl rfl) ?_
    refine o_nil ?_
    refine a_true rfl ((decide_eq_true hE)) ?_
    refine a_seq ?_
    refine a_region ?_
    refine Pstep.go (st_move rfl rfl) ?_
    refine Pstep.go (st_assign rfl rfl) ?_
    refine o_anyNil 4 rfl ?_
    refine Pstep.go (st_assign rfl rfl) ?_
    refine o_nil ?_
    refine a_ret ?_
    exact ⟨_, [], [], res_of rfl, rfl, rfl, rfl, rfl⟩
set_option maxRecDepth 100000 in
theorem admF_p (p : Prb) (l : List Int) (hb : PrbB p) (hl : l.length ≤ 1000) (h1 : p.it.length ≤ 1000) (h2 : p.ro.length ≤ 1000) : PCalls Tryz.prog 15 [.d (prbD p), .d (.sl none (l.map intD))] (.tup [boolD (decide (choE p l = 0 ∧ blks p (inL l) = [])), intD (choE p l)]) := by
  have hbk := blocksF_p p l hb hl h1 h2
  refine a_enter Tryz.func15 rfl rfl Tryz.ntmps15 rfl rfl rfl fun F hF => ?_
  refine a_seq ?_
  refine a_region ?_
  refine Estep.go (st_box 1 rfl rfl rfl rfl rfl rfl rfl) ?_
  refine Pstep.go (st_assign rfl rfl) ?_
  refine Pstep.go (st_assign rfl rfl) ?_
  refine o_nil ?_
  refine a_seq ?_
  refine a_region ?_
  refine Pstep.go (st_loadPS rfl rfl rw35 rfl rfl rfl) ?_
  refine Pstep.go (st_move rfl rfl) ?_
  refine Pstep.go (st_callP (hbk) rfl rfl) ?_
  refine Pstep.go (st_move rfl rfl) ?_
  refine Pstep.go (st_extractD rfl rfl rfl) ?_
  refine Pstep.go (st_extractD rfl rfl rfl) ?_
  refine Pstep.go (st_assign rfl rfl) ?_
  refine Pstep.go (st_assign rfl rfl) ?_
  refine o_nil ?_
  refine a_seq ?_
  refine a_region ?_
  refine Pstep.go (st_move rfl rfl) ?_
  refine Pstep.go (st_eql rfl rfl rfl) ?_
  refine Pstep.go (st_move rfl rfl) ?_
  refine o_splitP 16 rfl (fun h16 => ?_) (fun h16 => ?_)
  · refine o_run rfl rfl rfl ?_
    refine Pstep.go (st_move rfl rfl) ?_
    refine o_run rfl rfl rfl ?_
    refine Pstep.go (st_lenMap rfl Tryz.underlying39 rfl) ?_
    refine o_run rfl rfl rfl ?_
    refine Pstep.go (st_eql rfl rfl rfl) ?_
    refine Pstep.go (st_pickT rfl rfl rfl rfl) ?_
    refine Pstep.go (st_move rfl rfl) ?_
    refine Pstep.go (st_assign rfl rfl) ?_
    refine Pstep.go (st_assign rfl rfl) ?_
    refine o_nil ?_
    refine a_ret ?_
    exact ⟨_, [], [], res_of rfl, rfl, rfl, retT2 (by first | (rw [Bool.eq_iff_iff]; simp [h16, List.length_eq_zero_iff]; done) | (rw [Bool.eq_iff_iff]; simp_all)), rfl⟩
  · refine o_pass rfl rfl rfl rfl ?_
    refine o_pass rfl rfl rfl rfl ?_
    refine o_pass rfl rfl rfl rfl ?_
    refine Pstep.go (st_pickF rfl rfl rfl rfl) ?_
    refine Pstep.go (st_move rfl rfl) ?_
    refine Pstep.go (st_assign rfl rfl) ?_
    refine Pstep.go (st_assign rfl rfl) ?_
    refine o_nil ?_
    refine a_ret ?_
    exact ⟨_, [], [], res_of rfl, rfl, rfl, retT2 (by first | (rw [Bool.eq_iff_iff]; simp [h16, List.length_eq_zero_iff]; done) | (rw [Bool.eq_iff_iff]; simp_all)), rfl⟩
set_option maxRecDepth 100000 in
theorem violF_p (p : Prb) (l : List Int) (hb : PrbB p) (hl : l.length ≤ 1000) : PCalls Tryz.prog 24 [.d (prbD p), .d (.sl none (l.map intD))] (.tup [.sl none ((if choE p l = 0 then viol p (setM l) else []).map rooD), intD (choE p l)]) := by
  by_cases hE : choE p l = 0
  · have hpr := (prepare_ok p l hb (by omega) hE).by [(2, 12)] rfl
    have h0 := choE_prb hE
    rw [if_pos hE, hE]
    have hbk := fun mv => violations_c p mv (setM l) h0 hb (by unfold setM; rw [List.length_map]; exact hl)
    refine a_enter Tryz.func24 rfl rfl Tryz.ntmps24 rfl rfl rfl fun F hF => ?_
    refine a_seq ?_
    refine a_region ?_
    refine Estep.go (st_box 1 rfl rfl rfl rfl rfl rfl rfl) ?_
    refine Pstep.go (st_assign rfl rfl) ?_
    refine Pstep.go (st_assign rfl rfl) ?_
    refine o_nil ?_
    refine a_seq ?_
    refine a_region ?_
    refine Pstep.go (st_loadPS rfl rfl rw35 rfl rfl rfl) ?_
    refine Pstep.go (st_move rfl rfl) ?_
    refine Estep.go (st_callD hpr rfl [10, 11, 12] ⟨rfl, rfl, rfl, trivial⟩ rfl rfl rfl rfl rfl rfl rfl rfl rfl) ?_
    refine Pstep.go (st_move rfl rfl) ?_
    refine Pstep.go (st_extract rfl rfl rfl) ?_
    refine Pstep.go (st_extract rfl rfl rfl) ?_
    refine Pstep.go (st_extract rfl rfl rfl) ?_
    refine Pstep.go (st_assign rfl rfl) ?_
    refine Pstep.go (st_assign rfl rfl) ?_
    refine Pstep.go (st_assign rfl rfl) ?_
    refine o_nil ?_
    refine a_seq ?_
    refine a_seq ?_
    refine a_region ?_
    refine Pstep.go (st_move rfl rfl) ?_
    refine Pstep.go (st_neq rfl rfl rfl) ?_
    refine o_nil ?_
    refine a_false rfl ((by decide)) ?_
    refine a_skip ?_
    refine a_seq ?_
    refine a_ghostM 13 12 0 rfl rfl rfl rfl rfl fun mv => ?_
    refine a_toRaw 7 13 0 (.inl rfl) rfl ?_
    refine a_region ?_
    refine Pstep.go (st_move rfl rfl) ?_
    refine Pstep.go (st_move rfl rfl) ?_
    refine Estep.go (st_callD (hbk mv) rfl [10, 11, 12, 13] ⟨rfl, rfl, rfl, rfl, trivial⟩ rfl rfl rfl rfl rfl rfl rfl rfl rfl) ?_
    refine Pstep.go (st_assign rfl rfl) ?_
    refine Pstep.go (st_assign rfl rfl) ?_
    refine o_nil ?_
    refine a_ret ?_
    exact ⟨_, [], [], res_of rfl, rfl, rfl, rfl, rfl⟩
  · have hpr := prepare_bad p l hb (by omega) hE
    rw [if_neg hE]
    refine a_enter Tryz.func24 rfl rfl Tryz.ntmps24 rfl rfl rfl fun F hF => ?_
    refine a_seq ?_
    refine a_region ?_
    refine Estep.go (st_box 1 rfl rfl rfl rfl rfl rfl rfl) ?_
    refine Pstep.go (st_assign rfl rfl) ?_
    refine o_anyNil 4 rfl ?_
    refine Pstep.go (st_assign rfl rfl) ?_
    refine o_nil ?_
    refine a_seq ?_
    refine a_region ?_
    refine Pstep.go (st_loadPS rfl rfl rw35 rfl rfl rfl) ?_
    refine Pstep.go (st_move rfl rfl) ?_
    refine Pstep.go (st_callP (hpr) rfl rfl) ?_
    refine Pstep.go (st_move rfl rfl) ?_
    refine Pstep.go (st_extractD rfl rfl rfl) ?_
    refine Pstep.go (st_extractD rfl rfl rfl) ?_
    refine Pstep.go (st_extractD rfl rfl rfl) ?_
    refine Pstep.go (st_assign rfl rfl) ?_
    refine Pstep.go (st_assign rfl rfl) ?_
    refine Pstep.go (st_assign rfl rfl) ?_
    refine o_nil ?_
    refine a_seq ?_
    refine a_seq ?_
    refine a_region ?_
    refine Pstep.go (st_move rfl rfl) ?_
    refine Pstep.go (st_neq rfl rfl rfl) ?_
    refine o_nil ?_
    refine a_true rfl ((decide_eq_true hE)) ?_
    refine a_seq ?_
    refine a_region ?_
    refine Pstep.go (st_move rfl rfl) ?_
    refine Pstep.go (st_assign rfl rfl) ?_
    refine o_anyNil 4 rfl ?_
    refine Pstep.go (st_assign rfl rfl) ?_
    refine o_nil ?_
    refine a_ret ?_
    exact ⟨_, [], [], res_of rfl, rfl, rfl, rfl, rfl⟩
set_option maxRecDepth 100000 in
theorem feasF_p (p : Prb) (l : List Int) (hb : PrbB p) (hl : l.length ≤ 1000) (h1 : p.it.length ≤ 1000) (h2 : p.ro.length ≤ 1000) : PCalls Tryz.prog 17 [.d (prbD p), .d (.sl none (l.map intD))] (.tup [boolD (decide (choE p l = 0 ∧ blks p (inL l) = [] ∧ viol p (setM l) = [])), intD (choE p l)]) := by
  by_cases hE : choE p l = 0
  · have hpr := (prepare_ok p l hb (by omega) hE).by [(2, 12)] rfl
    have h0 := choE_prb hE
    have hbk := fun mv => blocks_c p mv (some (List.range (setM l).length, (setM l).length)) (setM l) hb h1 h2
    rw [inM_set] at hbk
    have hvk := fun mv => violations_c p mv (setM l) h0 hb (by unfold setM; rw [List.length_map]; exact hl)
    rw [hE]
    refine a_enter Tryz.func17 rfl rfl Tryz.ntmps17 rfl rfl rfl fun F hF => ?_
    refine a_seq ?_
    refine a_region ?_
    refine Estep.go (st_box 1 rfl rfl rfl rfl rfl rfl rfl) ?_
    refine Pstep.go (st_assign rfl rfl) ?_
    refine Pstep.go (st_assign rfl rfl) ?_
    refine o_nil ?_
    refine a_seq ?_
    refine a_region ?_
    refine Pstep.go (st_loadPS rfl rfl rw35 rfl rfl rfl) ?_
    refine Pstep.go (st_move rfl rfl) ?_
    refine Estep.go (st_callD hpr rfl [10, 11, 12] ⟨rfl, rfl, rfl, trivial⟩ rfl rfl rfl rfl rfl rfl rfl rfl rfl) ?_
    refine Pstep.go (st_move rfl rfl) ?_
    refine Pstep.go (st_extract rfl rfl rfl) ?_
    refine Pstep.go (st_extract rfl rfl rfl) ?_
    refine Pstep.go (st_extract rfl rfl rfl) ?_
    refine Pstep.go (st_assign rfl rfl) ?_
    refine Pstep.go (st_assign rfl rfl) ?_
    refine Pstep.go (st_assign rfl rfl) ?_
    refine o_nil ?_
    refine a_seq ?_
    refine a_seq ?_
    refine a_region ?_
    refine Pstep.go (st_move rfl rfl) ?_
    refine Pstep.go (st_neq rfl rfl rfl) ?_
    refine o_nil ?_
    refine a_false rfl ((by decide)) ?_
    refine a_skip ?_
    refine a_seq ?_
    refine a_ghostM 13 12 0 rfl rfl rfl rfl rfl fun mv => ?_
    refine a_toRaw 7 13 0 (.inl rfl) rfl ?_
    refine a_region ?_
    refine Pstep.go (st_move rfl rfl) ?_
    refine Pstep.go (st_move rfl rfl) ?_
    refine Estep.go (st_callD (hbk mv) rfl [10, 11, 12, 13] ⟨rfl, rfl, rfl, rfl, trivial⟩ rfl rfl rfl rfl rfl rfl rfl rfl rfl) ?_
    refine Pstep.go (st_lenMap rfl Tryz.underlying39 rfl) ?_
    refine Pstep.go (st_eql rfl rfl rfl) ?_
    refine Pstep.go (st_move rfl rfl) ?_
    refine o_splitP 24 rfl (fun h24 => ?_) (fun h24 => ?_)
    · refine o_run rfl rfl rfl ?_
      refine Pstep.go (st_move rfl rfl) ?_
      refine o_run rfl rfl rfl ?_
      refine Pstep.go (st_move rfl rfl) ?_
      refine o_run rfl rfl rfl ?_
      refine Estep.go (st_callD (hvk mv) rfl [10, 11, 12, 13] ⟨rfl, rfl, rfl, rfl, trivial⟩ rfl rfl rfl rfl rfl rfl rfl rfl rfl) ?_
      refine o_run rfl rfl rfl ?_
      refine Pstep.go (st_lenMap rfl Tryz.underlying56 rfl) ?_
      refine o_run rfl rfl rfl ?_
      refine Pstep.go (st_eql rfl rfl rfl) ?_
      refine Pstep.go (st_pickT rfl rfl rfl rfl) ?_
      refine Pstep.go (st_assign rfl rfl) ?_
      refine Pstep.go (st_assign rfl rfl) ?_
      refine o_nil ?_
      refine a_ret ?_
      exact ⟨_, [], [], res_of rfl, rfl, rfl, retT2 (by first | (rw [Bool.eq_iff_iff]; simp_all [List.length_eq_zero_iff]; done) | (rw [Bool.eq_iff_iff]; simp_all)), rfl⟩
    · refine o_pass rfl rfl rfl rfl ?_
      refine o_pass rfl rfl rfl rfl ?_
      refine o_pass rfl rfl rfl rfl ?_
      refine o_pass rfl rfl rfl rfl ?_
      refine o_pass rfl rfl rfl rfl ?_
      refine Pstep.go (st_pickF rfl rfl rfl rfl) ?_
      refine Pstep.go (st_assign rfl rfl) ?_
      refine Pstep.go (st_assign rfl rfl) ?_
      refine o_nil ?_
      refine a_ret ?_
      exact ⟨_, [], [], res_of rfl, rfl, rfl, retT2 (by first | (rw [Bool.eq_iff_iff]; simp_all [List.length_eq_zero_iff]; done) | (rw [Bool.eq_iff_iff]; simp_all)), rfl⟩
  · have hpr := prepare_bad p l hb (by omega) hE
    refine a_enter Tryz.func17 rfl rfl Tryz.ntmps17 rfl rfl rfl fun F hF => ?_
    refine a_seq ?_
    refine a_region ?_
    refine Estep.go (st_box 1 rfl rfl rfl rfl rfl rfl rfl) ?_
    refine Pstep.go (st_assign rfl rfl) ?_
    refine Pstep.go (st_assign rfl rfl) ?_
    refine o_nil ?_
    refine a_seq ?_
    refine a_region ?_
    refine Pstep.go (st_loadPS rfl rfl rw35 rfl rfl rfl) ?_
    refine Pstep.go (st_move rfl rfl) ?_
    refine Pstep.go (st_callP (hpr) rfl rfl) ?_
    refine Pstep.go (st_move rfl rfl) ?_
    refine Pstep.go (st_extractD rfl rfl rfl) ?_
    refine Pstep.go (st_extractD rfl rfl rfl) ?_
    refine Pstep.go (st_extractD rfl rfl rfl) ?_
    refine Pstep.go (st_assign rfl rfl) ?_
    refine Pstep.go (st_assign rfl rfl) ?_
    refine Pstep.go (st_assign rfl rfl) ?_
    refine o_nil ?_
    refine a_seq ?_
    refine a_seq ?_
    refine a_region ?_
    refine Pstep.go (st_move rfl rfl) ?_
    refine Pstep.go (st_neq rfl rfl rfl) ?_
    refine o_nil ?_
    refine a_true rfl ((decide_eq_true hE)) ?_
    refine a_seq ?_
    refine a_region ?_
    refine Pstep.go (st_move rfl rfl) ?_
    refine Pstep.go (st_assign rfl rfl) ?_
    refine Pstep.go (st_assign rfl rfl) ?_
    refine o_nil ?_
    refine a_ret ?_
    exact ⟨_, [], [], res_of rfl, rfl, rfl, by rw [decide_eq_false (fun h => hE h.1)], rfl⟩
end Go.Proofs.YtnamabifclidmaaGreat
/- Layer 29: the reference. -/
namespace Go.Proofs.YtnamabifclidmaaGreat
open Go.RowKit

set_option maxRecDepth 100000 in
theorem in29_p (l : List Int) (x : Int) (hn : l.length ≤ 140737488355328) : PCalls Tryz.prog 33 [.d (.sl none (l.map intD)), .d (intD x)] (.raw (.bool (decide (x ∈ l)))) := by
  refine a_enter Tryz.func33 rfl rfl Tryz.ntmps33 rfl rfl rfl fun F hF => ?_
  refine a_seq ?_
  refine a_region ?_
  refine Pstep.go (st_assign rfl rfl) ?_
  refine o_nil ?_
  refine a_seq ?_
  refine a_seq ?_
  refine a_region ?_
  refine Pstep.go (st_assign rfl rfl) ?_
  refine o_nil ?_
  refine a_block ?_
  refine a_loop (α := Nat) (fun k => ⟨18, [(0, .d (.sl none (l.map intD))), (1, .d (intD x)), (5, (.d (intD (k : Int))))], []⟩) (fun k => k ≤ l.length ∧ x ∉ l.take k) (fun k => l.length - k) (0) (⟨Nat.zero_le _, by simp⟩) (le_of_has ⟨rfl, rfl, rfl, trivial⟩) ?_
  rintro k ⟨hk0, hk⟩
  refine a_seq ?_
  refine a_seq ?_
  refine a_region ?_
  refine Pstep.go (st_move rfl rfl) ?_
  refine Pstep.go (st_move rfl rfl) ?_
  refine Pstep.go (st_lenMap rfl Tryz.underlying26 rfl) ?_
  refine Pstep.go (st_lss rfl rfl rfl) ?_
  refine o_nil ?_
  refine a_if rfl (fun h9 => ?_) (fun h9 => ?_)
  · have hk1 : k < l.length := lt_cast h9
    refine a_skip ?_
    refine a_seq ?_
    refine a_block ?_
    refine a_seq ?_
    refine a_region ?_
    refine Pstep.go (st_move rfl rfl) ?_
    refine Pstep.go (st_move rfl rfl) ?_
    refine Pstep.go (st_indexD (k) rfl rfl (rfl) (getm hk1) Tryz.underlying26 rfl sz3 rfl) ?_
    refine Pstep.go (st_loadD1 rfl rfl on3 rfl) ?_
    refine Pstep.go (st_move rfl rfl) ?_
    refine Pstep.go (st_eql rfl rfl rfl) ?_
    refine o_nil ?_
    refine a_if rfl (fun h17 => ?_) (fun h17 => ?_)
    · refine a_seq ?_
      refine a_region ?_
      refine Pstep.go (st_assign rfl rfl) ?_
      refine o_nil ?_
      refine a_ret ?_
      exact ⟨_, [], [], res_of rfl, rfl, rfl, retT (by rw [← h17]; exact List.getElem_mem hk1), rfl⟩
    · refine a_skip ?_
      refine a_region ?_
      refine Pstep.go (st_move rfl rfl) ?_
      refine Pstep.go (st_add rfl rfl (wrapS (k + 1) (by omega)) rfl) ?_
      refine Pstep.go (st_assign rfl rfl) ?_
      refine o_nil ?_
      exact ⟨k + 1, ⟨by show k + 1 ≤ _; omega, not_mem_take_succ hk1 hk (fun e => h17 e.symm)⟩, by show l.length - (k + 1) < l.length - k; omega, ⟨rfl, rfl, fun _ _ => Has.get (l := [(0, _), (1, _), (5, _)]) ⟨rfl, rfl, rfl, trivial⟩⟩⟩
  · refine a_exit ?_
    refine a_seq ?_
    refine a_region ?_
    refine Pstep.go (st_assign rfl rfl) ?_
    refine o_nil ?_
    refine a_ret ?_
    exact ⟨_, [], [], res_of rfl, rfl, rfl, retF (mem_of_take (by have h := h9; omega) hk), rfl⟩
theorem PC.le {γ : Type} {c : γ → γ → Int} (h : PC c) {x y z : γ} (h1 : c x y ≤ 0) (h2 : c y z ≤ 0) : c x z ≤ 0 := by
  by_cases e1 : c x y = 0
  · rw [h.eqv x y z e1]; exact h2
  · by_cases e2 : c y z = 0
    · have a1 := h.anti y z
      have e3 : c z y = 0 := by omega
      have a2 := h.eqv z y x e3
      have a3 := h.anti z x
      have a4 := h.anti y x
      omega
    · have := h.trans x y z (by omega) (by omega); omega
/-- One element put in its place. -/
theorem ins_sorted {γ : Type} {c : γ → γ → Int} (h : PC c) {acc : List γ} {m : Nat} {x : γ} (hs : acc.Pairwise fun a b => ¬ c b a < 0) (h1 : ∀ y ∈ acc.take m, c y x < 0) (h2 : ∀ y, acc[m]? = some y → ¬ c y x < 0) : ((acc.take m ++ [x]) ++ acc.drop m).Pairwise fun a b => ¬ c b a < 0 := by
  have hd : ∀ y ∈ acc.drop m, ¬ c y x < 0 := fun y hy => by
    cases hm : acc[m]? with
    | none =>
      rw [List.drop_of_length_le (List.getElem?_eq_none_iff.1 hm)] at hy; cases hy
    | some z =>
      obtain ⟨hlt, hz⟩ := List.getElem?_eq_some_iff.1 hm
      rw [List.drop_eq_getElem_cons hlt] at hy
      have hz2 := h2 z hm
      rcases List.mem_cons.1 hy with hy | hy
      · rw [hy, hz]; exact hz2
      · have hp : (acc.drop m).Pairwise fun a b => ¬ c b a < 0 := hs.sublist (List.drop_sublist _ _)
        rw [List.drop_eq_getElem_cons hlt, List.pairwise_cons] at hp
        have h3 := hp.1 y hy
        rw [hz] at h3
        have a1 := h.anti z x; have a2 := h.anti y z; have a3 := h.anti y x
        have := h.le (x := x) (y := z) (z := y) (by omega) (by omega)
        omega
  rw [List.pairwise_append]
  refine ⟨?_, hs.sublist (List.drop_sublist _ _), fun a ha b hb => ?_⟩
  · rw [List.pairwise_append]
    refine ⟨hs.sublist (List.take_sublist _ _), List.pairwise_singleton _ _, fun a ha b hb => ?_⟩
    rw [List.mem_singleton.1 hb]
    have := h1 a ha; have a1 := h.anti a x; omega
  · rcases List.mem_append.1 ha with ha | ha
    · have h3 := h1 a ha
      have h4 := hd b hb
      have a1 := h.anti a b; have a2 := h.anti b x
      have := h.le (x := a) (y := x) (z := b) (by omega) (by omega)
      omega
    · rw [List.mem_singleton.1 ha]; exact hd b hb
theorem ins_perm {γ : Type} {acc : List γ} {m : Nat} {x : γ} : ((acc.take m ++ [x]) ++ acc.drop m).Perm (acc ++ [x]) := by
  have h : (acc.take m ++ (x :: acc.drop m)).Perm (x :: (acc.take m ++ acc.drop m)) := List.perm_middle
  rw [List.take_append_drop] at h
  rw [List.append_assoc]
  exact h.trans (List.perm_append_singleton x acc).symm
theorem cmpI_ge {a b : Int} : ¬ cmpI b a < 0 ↔ a ≤ b := by unfold cmpI; split <;> (try split) <;> omega
theorem sort_one {l ys : List Int} (h1 : ys.Perm l) (h2 : ys.Pairwise fun a b => ¬ cmpI b a < 0) : ys = sortI l :=
  List.Perm.eq_of_pairwise (le := fun a b : Int => a ≤ b) (fun a b _ _ g1 g2 => by omega) (h2.imp fun h => cmpI_ge.1 h) (sortI_sorted l) (h1.trans (sortI_perm l).symm)
end Go.Proofs.YtnamabifclidmaaGreat
/- Layer 29: the reference, continued. -/
namespace Go.Proofs.YtnamabifclidmaaGreat
open Go.RowKit

theorem cmpRoo_pc : PC fun a b : Roo => cmpR a.r b.r := cmpR_pc.comap Roo.r
theorem linR_one {p : Prb} (hp : prbE p = 0) {ys : List Roo} (h1 : ys.Perm p.ro) (h2 : ys.Pairwise fun a b => ¬ cmpR b.r a.r < 0) : ys = linR p.ro :=
  rsc_one Roo.r (rooms_nodup (prb_ok hp).1) (linR_perm p.ro) (linR_sorted p.ro) h1 h2
set_option maxRecDepth 100000 in
set_option maxHeartbeats 1000000 in
theorem rooms29_p (p : Prb) (hp : prbE p = 0) (hl : p.ro.length ≤ 100000) : PCalls Tryz.prog 51 [.d (prbD p)] (.sl none ((linR p.ro).map rooD)) := by
  refine a_enter Tryz.func51 rfl rfl Tryz.ntmps51 rfl rfl rfl fun F hF => ?_
  refine a_seq ?_
  refine a_region ?_
  refine Estep.go (st_box 1 rfl rfl rfl rfl rfl rfl rfl) ?_
  refine Pstep.go (st_assign rfl rfl) ?_
  refine o_nil ?_
  refine a_seq ?_
  refine a_region ?_
  refine Pstep.go (st_assign rfl rfl) ?_
  refine o_nil ?_
  refine a_seq ?_
  refine a_seq ?_
  refine a_anyNil 3 rfl ?_
  refine a_region ?_
  refine Pstep.go (st_assign rfl rfl) ?_
  refine o_nil ?_
  refine a_block ?_
  refine a_loopP (α := Nat × List Roo) (fun q => ⟨51, [(1, (.ptr 1 0 0)), (3, (.d (.sl none (q.2.map rooD)))), (4, (.d (intD (q.1 : Int))))], [(1, [prbB2 25 p])]⟩) (fun q => q.1 ≤ p.ro.length ∧ q.2.Perm (p.ro.take q.1) ∧ q.2.Pairwise fun a b => ¬ cmpR b.r a.r < 0) (fun q => p.ro.length - q.1) ((0, [])) (⟨Nat.zero_le _, by simp, List.Pairwise.nil⟩) (lep_of hF [1] rfl rfl ⟨rfl, rfl, rfl, trivial⟩) ?_
  rintro ⟨k, acc⟩ ⟨hk0, hP, hS⟩
  dsimp only at hk0 hP hS ⊢
  refine a_seq ?_
  refine a_seq ?_
  refine a_region ?_
  refine Pstep.go (st_move rfl rfl) ?_
  refine Pstep.go (st_fieldP rfl fi25_0 rfl rfl rfl) ?_
  refine Pstep.go (st_loadP rfl rfl rfl on22 rfl) ?_
  refine Pstep.go (st_lenMap rfl Tryz.underlying22 rfl) ?_
  refine Pstep.go (st_lss rfl rfl rfl) ?_
  refine o_nil ?_
  refine a_if rfl (fun h10 => ?_) (fun h10 => ?_)
  · have hk1 : k < p.ro.length := lt_cast h10
    refine a_skip ?_
    refine a_seq ?_
    refine a_block ?_
    refine a_seq ?_
    have hal : acc.length ≤ 100000 := by rw [hP.length_eq, List.length_take]; omega
    refine a_region ?_
    refine Pstep.go (st_assign rfl rfl) ?_
    refine o_nil ?_
    refine a_seq ?_
    refine a_block ?_
    refine a_loopP (α := Nat) (fun m => ⟨51, [(1, (.ptr 1 0 0)), (3, (.d (.sl none (acc.map rooD)))), (4, (.d (intD (k : Int)))), (5, (.d (intD (m : Int))))], [(1, [prbB2 25 p])]⟩) (fun m => m ≤ acc.length ∧ ∀ y ∈ acc.take m, cmpR y.r p.ro[k].r < 0) (fun m => acc.length - m) (0) (⟨Nat.zero_le _, by simp⟩) (lep_of hF [1] rfl rfl ⟨rfl, rfl, rfl, rfl, trivial⟩) ?_
    rintro m ⟨hm0, hm⟩
    refine a_seq ?_
    refine a_seq ?_
    refine a_drawn [[], [], [1], [0, 1, 2], [0, 1, 2, 3], [0, 1, 2, 3, 4], [0, 1, 2, 3, 4], [0, 1, 2, 3, 4, 5, 6], [0, 1, 2, 3, 4, 5, 6, 7], [0, 1, 2, 3, 4, 5, 6, 7, 8], [0, 1, 2, 3, 4], [0, 1, 2, 3, 4, 10], [0, 1, 2, 3, 4], [0, 1, 2, 3, 4, 10, 11, 12], [0, 1, 2, 3, 4, 10, 11, 12, 13], [0, 1, 2, 3, 4, 10, 11, 12, 13, 14], [0, 1, 2, 3, 4, 5, 6, 7, 8, 9, 10, 11, 12, 13, 14, 15], [0, 1, 2, 3, 4, 5, 6, 7, 8, 9, 10, 11, 12, 13, 14, 15, 16], [0, 1, 2, 3, 4, 5, 6, 7, 8, 9, 10, 11, 12, 13, 14, 15, 16, 17]] mixed rfl ?_
    refine dws ?_
    refine d_pure [5] [] rfl rfl (fun _ => gp_none (st_move rfl rfl)) ?_
    refine d_pure [3] [] rfl rfl (fun _ => gp_none (st_move rfl rfl)) ?_
    refine d_pure [14] [] rfl rfl (fun _ => gp_none (st_lenMap rfl Tryz.underlying22 rfl)) ?_
    refine dwc 3 rfl rfl rfl ?_
    refine dw1 4 rfl rfl ?_
    refine Pstep.go (st_lss rfl rfl rfl) ?_
    refine o_nil ⟨rfl, ?_⟩
    refine dw1 5 rfl rfl ?_
    refine Pstep.go (st_move rfl rfl) ?_
    refine o_splitP 17 rfl (fun h17 => ?_) (fun h17 => ?_)
    · refine o_nil ⟨rfl, ?_⟩
      refine dws ?_
      try have hm1 : m < acc.length := lt_cast h17
      refine d_pure [3, 17] [] rfl rfl (fun _ => gp_run rfl rfl rfl (st_move rfl rfl)) ?_
      refine d_pure [5, 17] [] rfl rfl (fun _ => gp_run rfl rfl rfl (st_move rfl rfl)) ?_
      refine d_pure [18, 19, 17] [] rfl rfl (fun _ => gp_run rfl rfl rfl (st_indexD (m) rfl rfl (rfl) (getm hm1) Tryz.underlying22 rfl sz104 rfl)) ?_
      refine d_pure [20, 17] [] rfl rfl (fun _ => gp_run rfl rfl rfl (st_fieldFS rfl fi104_0 rfl rfl rfl)) ?_
      refine d_pure [21, 17] [] rfl rfl (fun _ => gp_run rfl rfl rfl (st_loadDS rfl rfl rw52 rfl)) ?_
      refine d_pure [1, 17] [] rfl rfl (fun _ => gp_run rfl rfl rfl (st_fieldP rfl fi25_0 rfl rfl rfl)) ?_
      refine d_pureA [23, 17] rfl rfl (fun _ => gp_run rfl rfl rfl (st_loadP rfl rfl rfl on22 rfl)) ?_
      refine d_pure [4, 17] [] rfl rfl (fun _ => gp_run rfl rfl rfl (st_move rfl rfl)) ?_
      refine d_pure [24, 25, 17] [] rfl rfl (fun _ => gp_run rfl rfl rfl (st_indexD (k) rfl rfl (rfl) (getm hk1) Tryz.underlying22 rfl sz104 rfl)) ?_
      refine d_pure [26, 17] [] rfl rfl (fun _ => gp_run rfl rfl rfl (st_fieldFS rfl fi104_0 rfl rfl rfl)) ?_
      refine d_pure [27, 17] [] rfl rfl (fun _ => gp_run rfl rfl rfl (st_loadDS rfl rfl rw52 rfl)) ?_
      refine dwc 16 rfl rfl rfl ?_
      refine dw1 17 rfl rfl ?_
      refine o_run rfl rfl rfl ?_
      refine Pstep.go (st_callP (refcompare_p acc[m].r p.ro[k].r) rfl rfl) ?_
      refine o_nil ⟨rfl, ?_⟩
      refine dw1 18 rfl rfl ?_
      refine o_run rfl rfl rfl ?_
      refine Pstep.go (st_lss rfl rfl rfl) ?_
      refine o_nil ⟨rfl, ?_⟩
      refine dw1 19 rfl rfl ?_
      refine Pstep.go (st_pickT rfl rfl rfl rfl) ?_
      refine o_nil ⟨rfl, ?_⟩
      refine dwe ?_
      refine a_if rfl (fun h31 => ?_) (fun h31 => ?_)
      · refine a_skip ?_
        refine a_block ?_
        refine a_region ?_
        refine Pstep.go (st_move rfl rfl) ?_
        refine Pstep.go (st_add rfl rfl (wrapS (m + 1) (by omega)) rfl) ?_
        refine Pstep.go (st_assign rfl rfl) ?_
        refine o_nil ?_
        exact ⟨m + 1, ⟨by show m + 1 ≤ _; omega, by rw [List.take_succ_eq_append_getElem hm1]; intro y hy; rcases List.mem_append.1 hy with hy | hy; exact hm y hy; rw [List.mem_singleton.1 hy]; exact h31⟩, by show acc.length - (m + 1) < acc.length - m; omega, lep_of hF [1] rfl (rfl) ⟨rfl, rfl, rfl, rfl, trivial⟩⟩
      · refine a_exit ?_
        have hstop : ∀ y, acc[m]? = some y → ¬ cmpR y.r p.ro[k].r < 0 := by first | (intro y hy; have h3 := (List.getElem?_eq_some_iff.1 hy).1; exact absurd h3 (by have h := h17; omega)) | (intro y hy; rw [List.getElem?_eq_getElem hm1] at hy; injection hy with hy; rw [← hy]; exact h31)
        refine a_drawn [[], [], [], [1, 2], [0, 1, 2, 3], [], [5], [], [5, 6, 7], [5, 6, 7, 8], [5, 6, 7, 8, 9], [0, 1, 2, 3, 4, 5, 6, 7, 8, 9, 10], [], [], [12, 13], [0, 1, 2, 3, 4, 5, 6, 7, 8, 9, 10, 11, 12, 13, 14], [0, 1, 2, 3, 4, 5, 6, 7, 8, 9, 10, 11, 12, 13, 14, 15]] mixed rfl ?_
        refine dws ?_
        refine d_eff [] [20] [(34, _)] rfl rfl (fun _ => ge_none (st_buildSlice 20 sl22 rfl rfl rfl rfl rfl rfl rfl rfl)) (.inr ⟨34, _, rfl, rfl, rfl, rfl, rfl⟩) rfl rfl rfl rfl rfl ?_
        refine d_pure [3] [] rfl rfl (fun _ => gp_none (st_move rfl rfl)) ?_
        refine d_pure [5] [] rfl rfl (fun _ => gp_none (st_move rfl rfl)) ?_
        refine d_pure [35, 36] [] rfl rfl (fun _ => gp_none (st_sliceHiM (acc) (m) rfl rfl rfl (rfl) (by omega) Tryz.underlying22 sz104 (fun _ => rfl) rfl)) ?_
        refine d_eff [34, 37] [20] [(38, _)] rfl rfl (fun _ => ge_none (st_appMD (([] : List Roo)) (acc.take m) rfl rfl rfl rfl rfl rfl (fun _ => rfl) sl22 (by simp only [List.length_nil, List.length_take]; omega) rfl rfl rfl rfl)) (.inr ⟨38, _, rfl, rfl, rfl, rfl, rfl⟩) rfl rfl rfl rfl rfl ?_
        refine d_pure [1] [] rfl rfl (fun _ => gp_none (st_fieldP rfl fi25_0 rfl rfl rfl)) ?_
        refine d_pure [39] [1] rfl rfl (fun _ => gp_none (st_loadP rfl rfl rfl on22 rfl)) ?_
        refine d_pure [4] [] rfl rfl (fun _ => gp_none (st_move rfl rfl)) ?_
        refine d_pure [40, 41] [] rfl rfl (fun _ => gp_none (st_indexD (k) rfl rfl (rfl) (getm hk1) Tryz.underlying22 rfl sz104 rfl)) ?_
        refine d_pure [42] [] rfl rfl (fun _ => gp_none (st_loadDS rfl rfl rw104 rfl)) ?_
        refine d_eff [43] [21] [(44, _)] rfl rfl (fun _ => ge_none (st_buildSlice 21 sl22 rfl rfl rfl rfl rfl rfl rfl rfl)) (.inr ⟨44, _, rfl, rfl, rfl, rfl, rfl⟩) rfl rfl rfl rfl rfl ?_
        refine d_effX [34] [38, 44] [20, 21] [(45, _)] rfl rfl (fun _ => ge_none (st_appM (([] ++ acc.take m)) ([p.ro[k]]) rfl rfl rfl rfl rfl rfl rfl rfl sl22 (by simp only [List.nil_append, List.length_singleton, List.length_take]; omega) rfl rfl rfl rfl)) (.inr ⟨45, _, rfl, rfl, rfl, rfl, rfl⟩) rfl rfl rfl rfl rfl ?_
        refine d_pure [3] [] rfl rfl (fun _ => gp_none (st_move rfl rfl)) ?_
        refine d_pure [5] [] rfl rfl (fun _ => gp_none (st_move rfl rfl)) ?_
        refine d_pure [46, 47] [] rfl rfl (fun _ => gp_none (st_sliceLoM (acc) (m) rfl rfl rfl (rfl) (by omega) Tryz.underlying22 sz104 (fun _ => rfl) rfl)) ?_
        refine dwc 15 rfl rfl rfl ?_
        refine dw1 16 rfl rfl ?_
        refine Estep.go (st_appMD ((([] ++ acc.take m) ++ [p.ro[k]])) (acc.drop m) rfl rfl rfl rfl rfl rfl (fun _ => rfl) sl22 (by simp only [List.nil_append, List.length_append, List.length_singleton, List.length_take, List.length_drop]; omega) rfl rfl rfl rfl) ?_
        refine o_nil ⟨rfl, ?_⟩
        refine dw1 17 rfl rfl ?_
        refine Pstep.go (st_assign rfl rfl) ?_
        refine o_nil ⟨rfl, ?_⟩
        refine dwe ?_
        refine a_freezeM (emb := rooD) 3 20 ((([] ++ acc.take m) ++ [p.ro[k]]) ++ acc.drop m) rfl rfl rfl rfl rfl rfl rfl ?_
        refine a_region ?_
        refine Pstep.go (st_move rfl rfl) ?_
        refine Pstep.go (st_add rfl rfl (wrapS (k + 1) (by omega)) rfl) ?_
        refine Pstep.go (st_assign rfl rfl) ?_
        refine o_nil ?_
        exact ⟨(k + 1, _), ⟨by show k + 1 ≤ _; omega, by show (((([] ++ acc.take m) ++ [p.ro[k]]) ++ acc.drop m) : List Roo).Perm (p.ro.take (k + 1)); rw [List.take_succ_eq_append_getElem hk1, List.nil_append]; exact ins_perm.trans (hP.append_right _), by show (((([] ++ acc.take m) ++ [p.ro[k]]) ++ acc.drop m) : List Roo).Pairwise _; rw [List.nil_append]; exact ins_sorted cmpRoo_pc hS hm hstop⟩, by show p.ro.length - (k + 1) < p.ro.length - k; omega, lep_of hF [1] rfl (rfl) ⟨rfl, rfl, rfl, trivial⟩⟩
    · refine o_nil ⟨rfl, ?_⟩
      refine dws ?_
      try have hm1 : m < acc.length := lt_cast h17
      refine d_pure [3, 17] [] rfl rfl (fun _ => gp_pass rfl rfl rfl rfl) ?_
      refine d_pure [5, 17] [] rfl rfl (fun _ => gp_pass rfl rfl rfl rfl) ?_
      refine d_pure [18, 19, 17] [] rfl rfl (fun _ => gp_pass rfl rfl rfl rfl) ?_
      refine d_pure [20, 17] [] rfl rfl (fun _ => gp_pass rfl rfl rfl rfl) ?_
      refine d_pure [21, 17] [] rfl rfl (fun _ => gp_pass rfl rfl rfl rfl) ?_
      refine d_pure [1, 17] [] rfl rfl (fun _ => gp_pass rfl rfl rfl rfl) ?_
      refine d_pure [23, 17] [] rfl rfl (fun _ => gp_pass rfl rfl rfl rfl) ?_
      refine d_pure [4, 17] [] rfl rfl (fun _ => gp_pass rfl rfl rfl rfl) ?_
      refine d_pure [24, 25, 17] [] rfl rfl (fun _ => gp_pass rfl rfl rfl rfl) ?_
      refine d_pure [26, 17] [] rfl rfl (fun _ => gp_pass rfl rfl rfl rfl) ?_
      refine d_pure [27, 17] [] rfl rfl (fun _ => gp_pass rfl rfl rfl rfl) ?_
      refine dwc 16 rfl rfl rfl ?_
      refine dw1 17 rfl rfl ?_
      refine o_pass rfl rfl rfl rfl ?_
      refine o_nil ⟨rfl, ?_⟩
      refine dw1 18 rfl rfl ?_
      refine o_pass rfl rfl rfl rfl ?_
      refine o_nil ⟨rfl, ?_⟩
      refine dw1 19 rfl rfl ?_
      refine Pstep.go (st_pickF rfl rfl rfl rfl) ?_
      refine o_nil ⟨rfl, ?_⟩
      refine dwe ?_
      refine a_false rfl rfl ?_
      refine a_exit ?_
      have hstop : ∀ y, acc[m]? = some y → ¬ cmpR y.r p.ro[k].r < 0 := by first | (intro y hy; have h3 := (List.getElem?_eq_some_iff.1 hy).1; exact absurd h3 (by have h := h17; omega)) | (intro y hy; rw [List.getElem?_eq_getElem hm1] at hy; injection hy with hy; rw [← hy]; exact h31)
      refine a_drawn [[], [], [], [1, 2], [0, 1, 2, 3], [], [5], [], [5, 6, 7], [5, 6, 7, 8], [5, 6, 7, 8, 9], [0, 1, 2, 3, 4, 5, 6, 7, 8, 9, 10], [], [], [12, 13], [0, 1, 2, 3, 4, 5, 6, 7, 8, 9, 10, 11, 12, 13, 14], [0, 1, 2, 3, 4, 5, 6, 7, 8, 9, 10, 11, 12, 13, 14, 15]] mixed rfl ?_
      refine dws ?_
      refine d_eff [] [20] [(34, _)] rfl rfl (fun _ => ge_none (st_buildSlice 20 sl22 rfl rfl rfl rfl rfl rfl rfl rfl)) (.inr ⟨34, _, rfl, rfl, rfl, rfl, rfl⟩) rfl rfl rfl rfl rfl ?_
      refine d_pure [3] [] rfl rfl (fun _ => gp_none (st_move rfl rfl)) ?_
      refine d_pure [5] [] rfl rfl (fun _ => gp_none (st_move rfl rfl)) ?_
      refine d_pure [35, 36] [] rfl rfl (fun _ => gp_none (st_sliceHiM (acc) (m) rfl rfl rfl (rfl) (by omega) Tryz.underlying22 sz104 (fun _ => rfl) rfl)) ?_
      refine d_eff [34, 37] [20] [(38, _)] rfl rfl (fun _ => ge_none (st_appMD (([] : List Roo)) (acc.take m) rfl rfl rfl rfl rfl rfl (fun _ => rfl) sl22 (by simp only [List.length_nil, List.length_take]; omega) rfl rfl rfl rfl)) (.inr ⟨38, _, rfl, rfl, rfl, rfl, rfl⟩) rfl rfl rfl rfl rfl ?_
      refine d_pure [1] [] rfl rfl (fun _ => gp_none (st_fieldP rfl fi25_0 rfl rfl rfl)) ?_
      refine d_pure [39] [1] rfl rfl (fun _ => gp_none (st_loadP rfl rfl rfl on22 rfl)) ?_
      refine d_pure [4] [] rfl rfl (fun _ => gp_none (st_move rfl rfl)) ?_
      refine d_pure [40, 41] [] rfl rfl (fun _ => gp_none (st_indexD (k) rfl rfl (rfl) (getm hk1) Tryz.underlying22 rfl sz104 rfl)) ?_
      refine d_pure [42] [] rfl rfl (fun _ => gp_none (st_loadDS rfl rfl rw104 rfl)) ?_
      refine d_eff [43] [21] [(44, _)] rfl rfl (fun _ => ge_none (st_buildSlice 21 sl22 rfl rfl rfl rfl rfl rfl rfl rfl)) (.inr ⟨44, _, rfl, rfl, rfl, rfl, rfl⟩) rfl rfl rfl rfl rfl ?_
      refine d_effX [34] [38, 44] [20, 21] [(45, _)] rfl rfl (fun _ => ge_none (st_appM (([] ++ acc.take m)) ([p.ro[k]]) rfl rfl rfl rfl rfl rfl rfl rfl sl22 (by simp only [List.nil_append, List.length_singleton, List.length_take]; omega) rfl rfl rfl rfl)) (.inr ⟨45, _, rfl, rfl, rfl, rfl, rfl⟩) rfl rfl rfl rfl rfl ?_
      refine d_pure [3] [] rfl rfl (fun _ => gp_none (st_move rfl rfl)) ?_
      refine d_pure [5] [] rfl rfl (fun _ => gp_none (st_move rfl rfl)) ?_
      refine d_pure [46, 47] [] rfl rfl (fun _ => gp_none (st_sliceLoM (acc) (m) rfl rfl rfl (rfl) (by omega) Tryz.underlying22 sz104 (fun _ => rfl) rfl)) ?_
      refine dwc 15 rfl rfl rfl ?_
      refine dw1 16 rfl rfl ?_
      refine Estep.go (st_appMD ((([] ++ acc.take m) ++ [p.ro[k]])) (acc.drop m) rfl rfl rfl rfl rfl rfl (fun _ => rfl) sl22 (by simp only [List.nil_append, List.length_append, List.length_singleton, List.length_take, List.length_drop]; omega) rfl rfl rfl rfl) ?_
      refine o_nil ⟨rfl, ?_⟩
      refine dw1 17 rfl rfl ?_
      refine Pstep.go (st_assign rfl rfl) ?_
      refine o_nil ⟨rfl, ?_⟩
      refine dwe ?_
      refine a_freezeM (emb := rooD) 3 20 ((([] ++ acc.take m) ++ [p.ro[k]]) ++ acc.drop m) rfl rfl rfl rfl rfl rfl rfl ?_
      refine a_region ?_
      refine Pstep.go (st_move rfl rfl) ?_
      refine Pstep.go (st_add rfl rfl (wrapS (k + 1) (by omega)) rfl) ?_
      refine Pstep.go (st_assign rfl rfl) ?_
      refine o_nil ?_
      exact ⟨(k + 1, _), ⟨by show k + 1 ≤ _; omega, by show (((([] ++ acc.take m) ++ [p.ro[k]]) ++ acc.drop m) : List Roo).Perm (p.ro.take (k + 1)); rw [List.take_succ_eq_append_getElem hk1, List.nil_append]; exact ins_perm.trans (hP.append_right _), by show (((([] ++ acc.take m) ++ [p.ro[k]]) ++ acc.drop m) : List Roo).Pairwise _; rw [List.nil_append]; exact ins_sorted cmpRoo_pc hS hm hstop⟩, by show p.ro.length - (k + 1) < p.ro.length - k; omega, lep_of hF [1] rfl (rfl) ⟨rfl, rfl, rfl, trivial⟩⟩
  · refine a_exit ?_
    refine a_seq ?_
    refine a_region ?_
    refine Pstep.go (st_move rfl rfl) ?_
    refine Pstep.go (st_assign rfl rfl) ?_
    refine o_nil ?_
    refine a_ret ?_
    exact ⟨_, [], [], res_of rfl, rfl, rfl, by rw [linR_one hp (by have h4 := hP; rw [List.take_of_length_le (by have h := h10; omega)] at h4; exact h4) hS], rfl⟩
theorem linL_flat {p : Prb} {β : Type} (g : Lin → List β) : (linL p).flatMap g = (linR p.ro).flatMap fun y => g (toLin p y) := by unfold linL; rw [List.flatMap_map]
end Go.Proofs.YtnamabifclidmaaGreat
/- Layer 29: the reference's functions. -/
namespace Go.Proofs.YtnamabifclidmaaGreat
open Go.RowKit

set_option maxRecDepth 100000 in
theorem check29_p (p : Prb) (l : List Int) (g1 : p.ro.length ≤ 1000) (g2 : p.it.length ≤ 1000) (g3 : ∀ i ∈ p.it, i.po.length ≤ 1000 ∧ i.pa.length ≤ 1000 ∧ i.af.length ≤ 1000) (hl : l.length ≤ 100000) : PCalls Tryz.prog 18 [.d (prbD p), .d (.sl none (l.map intD))] (intD (choE p l)) := by
  have hck := refpcheck_p p g1 g2 g3
  by_cases h0 : prbE p = 0
  · have hC : choE p l = setE (p.it.map Itm.id) l := if_neg (fun h => h h0)
    rw [h0] at hck
    rw [hC]
    obtain ⟨E0, hE0⟩ : ∃ e, setE (p.it.map Itm.id) l = e := ⟨_, rfl⟩
    rw [hE0]
    refine a_enter Tryz.func18 rfl rfl Tryz.ntmps18 rfl rfl rfl fun F hF => ?_
    refine a_seq ?_
    refine a_region ?_
    refine Estep.go (st_box 1 rfl rfl rfl rfl rfl rfl rfl) ?_
    refine Pstep.go (st_assign rfl rfl) ?_
    refine o_nil ?_
    refine a_seq ?_
    refine a_seq ?_
    refine a_region ?_
    refine Pstep.go (st_loadPS rfl rfl rw25 rfl rfl rfl) ?_
    refine Pstep.go (st_callP (hck) rfl rfl) ?_
    refine Pstep.go (st_assign rfl rfl) ?_
    refine o_nil ?_
    refine a_seq ?_
    refine a_region ?_
    refine Pstep.go (st_move rfl rfl) ?_
    refine Pstep.go (st_neq rfl rfl rfl) ?_
    refine o_nil ?_
    refine a_false rfl ((by decide)) ?_
    refine a_skip ?_
    refine a_seq ?_
    refine a_seq ?_
    refine a_region ?_
    refine Pstep.go (st_assign rfl rfl) ?_
    refine o_nil ?_
    refine a_block ?_
    refine a_loopP (α := Nat) (fun k => ⟨33, [(1, .d (.sl none (l.map intD))), (2, (.ptr 1 0 0)), (6, (.d (intD (k : Int))))], [(1, [prbB2 25 p])]⟩) (fun k => k ≤ l.length ∧ E0 = fst0 (((List.range l.length).drop k).map (chErr (p.it.map Itm.id) l))) (fun k => l.length - k) (0) (⟨Nat.zero_le _, hE0.symm⟩) (lep_of hF [1] rfl rfl ⟨rfl, rfl, rfl, trivial⟩) ?_
    rintro k ⟨hk0, hk⟩
    refine a_seq ?_
    refine a_seq ?_
    refine a_region ?_
    refine Pstep.go (st_move rfl rfl) ?_
    refine Pstep.go (st_move rfl rfl) ?_
    refine Pstep.go (st_lenMap rfl Tryz.underlying26 rfl) ?_
    refine Pstep.go (st_lss rfl rfl rfl) ?_
    refine o_nil ?_
    refine a_if rfl (fun h15 => ?_) (fun h15 => ?_)
    · have hk1 : k < l.length := lt_cast h15
      refine a_skip ?_
      refine a_seq ?_
      refine a_block ?_
      refine a_seq ?_
      refine a_seq ?_
      refine a_drawn [[], [], [], [1, 2], [1, 2, 3], [0, 1, 2, 3, 4], [0, 1, 2, 3, 4, 5]] mixed rfl ?_
      refine dws ?_
      have hEc := range_cases hk1 hk
      have hgd := getD_at 0 hk1
      refine d_pureA [2] rfl rfl (fun _ => gp_none (st_loadPS rfl rfl rw25 rfl rfl rfl)) ?_
      refine d_pure [1] [] rfl rfl (fun _ => gp_none (st_move rfl rfl)) ?_
      refine d_pure [6] [] rfl rfl (fun _ => gp_none (st_move rfl rfl)) ?_
      refine d_pure [19, 20] [] rfl rfl (fun _ => gp_none (st_indexD (k) rfl rfl (rfl) (getm hk1) Tryz.underlying26 rfl sz3 rfl)) ?_
      refine d_pure [21] [] rfl rfl (fun _ => gp_none (st_loadD1 rfl rfl on3 rfl)) ?_
      refine dwc 5 rfl rfl rfl ?_
      refine dw1 6 rfl rfl ?_
      refine Pstep.go (st_callP (find_p p l[k] (by omega)) rfl rfl) ?_
      refine o_nil ⟨rfl, ?_⟩
      refine dw1 7 rfl rfl ?_
      refine Pstep.go (st_lss rfl rfl rfl) ?_
      refine o_nil ⟨rfl, ?_⟩
      refine dwe ?_
      refine a_if rfl (fun h24 => ?_) (fun h24 => ?_)
      · refine a_seq ?_
        refine a_region ?_
        refine Pstep.go (st_assign rfl rfl) ?_
        refine o_nil ?_
        refine a_ret ?_
        exact ⟨_, [], [], res_of rfl, rfl, rfl, retI (hEc.2 9 (by unfold chErr; rw [hgd, if_pos (ixI_neg h24)]) (by decide)), rfl⟩
      · refine a_skip ?_
        refine a_seq ?_
        refine a_drawn [[], [], [0, 1], [], [], [3, 4], [3, 4, 5], [0, 1, 2, 3, 4, 5, 6]] mixed rfl ?_
        refine dws ?_
        refine d_pure [1] [] rfl rfl (fun _ => gp_none (st_move rfl rfl)) ?_
        refine d_pure [6] [] rfl rfl (fun _ => gp_none (st_move rfl rfl)) ?_
        refine d_pure [25, 26] [] rfl rfl (fun _ => gp_none (st_sliceHiM (l) (k) rfl rfl rfl (rfl) (by omega) Tryz.underlying26 sz3 (fun _ => rfl) rfl)) ?_
        refine d_pure [1] [] rfl rfl (fun _ => gp_none (st_move rfl rfl)) ?_
        refine d_pure [6] [] rfl rfl (fun _ => gp_none (st_move rfl rfl)) ?_
        refine d_pure [28, 29] [] rfl rfl (fun _ => gp_none (st_indexD (k) rfl rfl (rfl) (getm hk1) Tryz.underlying26 rfl sz3 rfl)) ?_
        refine d_pure [30] [] rfl rfl (fun _ => gp_none (st_loadD1 rfl rfl on3 rfl)) ?_
        refine dwc 7 rfl rfl rfl ?_
        refine dw1 8 rfl rfl ?_
        refine Pstep.go (st_callP (in29_p (l.take k) l[k] (by rw [List.length_take]; omega)) rfl rfl) ?_
        refine o_nil ⟨rfl, ?_⟩
        refine dwe ?_
        refine a_if rfl (fun h32 => ?_) (fun h32 => ?_)
        · refine a_seq ?_
          refine a_region ?_
          refine Pstep.go (st_assign rfl rfl) ?_
          refine o_nil ?_
          refine a_ret ?_
          exact ⟨_, [], [], res_of rfl, rfl, rfl, retI (hEc.2 7 (by unfold chErr; rw [hgd, if_neg (fun h => h (ixI_nn (by omega))), if_pos h32]) (by decide)), rfl⟩
        · refine a_skip ?_
          refine a_region ?_
          refine Pstep.go (st_move rfl rfl) ?_
          refine Pstep.go (st_add rfl rfl (wrapS (k + 1) (by omega)) rfl) ?_
          refine Pstep.go (st_assign rfl rfl) ?_
          refine o_nil ?_
          exact ⟨k + 1, ⟨by show k + 1 ≤ _; omega, hEc.1 (by unfold chErr; rw [hgd, if_neg (fun h => h (ixI_nn (by omega))), if_neg h32])⟩, by show l.length - (k + 1) < l.length - k; omega, lep_of hF [1] rfl (rfl) ⟨rfl, rfl, rfl, trivial⟩⟩
    · refine a_exit ?_
      refine a_seq ?_
      refine a_region ?_
      refine Pstep.go (st_assign rfl rfl) ?_
      refine o_nil ?_
      refine a_ret ?_
      exact ⟨_, [], [], res_of rfl, rfl, rfl, retI (by rw [hk, List.drop_of_length_le (by have h := h15; simp only [List.length_range]; omega)]; rfl), rfl⟩
  · have hC : choE p l = prbE p := if_pos h0
    rw [hC]
    refine a_enter Tryz.func18 rfl rfl Tryz.ntmps18 rfl rfl rfl fun F hF => ?_
    refine a_seq ?_
    refine a_region ?_
    refine Estep.go (st_box 1 rfl rfl rfl rfl rfl rfl rfl) ?_
    refine Pstep.go (st_assign rfl rfl) ?_
    refine o_nil ?_
    refine a_seq ?_
    refine a_seq ?_
    refine a_region ?_
    refine Pstep.go (st_loadPS rfl rfl rw25 rfl rfl rfl) ?_
    refine Pstep.go (st_callP (hck) rfl rfl) ?_
    refine Pstep.go (st_assign rfl rfl) ?_
    refine o_nil ?_
    refine a_seq ?_
    refine a_region ?_
    refine Pstep.go (st_move rfl rfl) ?_
    refine Pstep.go (st_neq rfl rfl rfl) ?_
    refine o_nil ?_
    refine a_true rfl ((decide_eq_true h0)) ?_
    refine a_seq ?_
    refine a_region ?_
    refine Pstep.go (st_move rfl rfl) ?_
    refine Pstep.go (st_assign rfl rfl) ?_
    refine o_nil ?_
    refine a_ret ?_
    exact ⟨_, [], [], res_of rfl, rfl, rfl, rfl, rfl⟩
/-- A valid problem, small enough for the references. -/
structure PV (p : Prb) : Prop where
  e : prbE p = 0
  b : PrbB p
  i : p.it.length ≤ 1000
  r : p.ro.length ≤ 1000
  q : ∀ i ∈ p.it, i.po.length ≤ 1000 ∧ i.pa.length ≤ 1000 ∧ i.af.length ≤ 1000
def dsum (p : Prb) (r : Rsc) (l : List Int) : Int := l.foldl (fun s x => s + dltE (itmOf p x) r) 0
theorem dsum_snoc (p : Prb) (r : Rsc) {l : List Int} {k : Nat} (hk : k < l.length) : dsum p r (l.take (k + 1)) = dsum p r (l.take k) + dltE (itmOf p l[k]) r := by
  unfold dsum; rw [List.take_succ_eq_append_getElem hk, List.foldl_append]; rfl
theorem dsum_from (p : Prb) (r : Rsc) : ∀ (l : List Int) (a : Int), l.foldl (fun s x => s + dltE (itmOf p x) r) a = a + vioS p r (setM l)
  | [], a => by simp [vioS, setM]
  | x :: l, a => by
    rw [List.foldl_cons, dsum_from p r l]
    show _ = a + vioS p r ((x, true) :: setM l)
    rw [vioS_cons', if_pos rfl]; omega
theorem dsum_eq (p : Prb) (r : Rsc) (l : List Int) : dsum p r l = vioS p r (setM l) := by unfold dsum; rw [dsum_from]; omega
set_option maxRecDepth 100000 in
theorem viol29_p (p : Prb) (l : List Int) (hv : PV p) (hl : l.length ≤ 1000) (hin : ∀ x ∈ l, x ∈ p.it.map Itm.id) : PCalls Tryz.prog 25 [.d (prbD p), .d (.sl none (l.map intD))] (.sl none ((viol p (setM l)).map rooD)) := by
  have h1 := hv.i
  have h2 := hv.r
  have hrm := rooms29_p p hv.e (by omega)
  have hrl := linR_len p.ro
  have hmr : ∀ x ∈ linR p.ro, -4000000000000000 ≤ x.n ∧ x.n ≤ 4000000000000000 := fun x hx => rooms_amt (prb_ok hv.e).1 x ((linR_perm p.ro).mem_iff.1 hx)
  have hvv : viol p (setM l) = (linR p.ro).flatMap fun y => vio1 p (setM l) (toLin p y) := by unfold viol; rw [linL_flat]
  rw [hvv]
  obtain ⟨R, hR⟩ : ∃ R, linR p.ro = R := ⟨_, rfl⟩
  rw [hR] at hrm hrl hmr ⊢
  refine a_enter Tryz.func25 rfl rfl Tryz.ntmps25 rfl rfl rfl fun F hF => ?_
  refine a_seq ?_
  refine a_region ?_
  refine Estep.go (st_box 1 rfl rfl rfl rfl rfl rfl rfl) ?_
  refine Pstep.go (st_assign rfl rfl) ?_
  refine o_nil ?_
  refine a_seq ?_
  refine a_region ?_
  refine Pstep.go (st_assign rfl rfl) ?_
  refine o_nil ?_
  refine a_seq ?_
  refine a_adopt 5 900 sl59 rfl rfl rfl rfl ?_
  refine a_region ?_
  refine Pstep.go (st_loadPS rfl rfl rw25 rfl rfl rfl) ?_
  refine Pstep.go (st_callP (hrm) rfl rfl) ?_
  refine Pstep.go (st_assign rfl rfl) ?_
  refine o_nil ?_
  refine a_seq ?_
  refine a_seq ?_
  refine a_region ?_
  refine Pstep.go (st_assign rfl rfl) ?_
  refine o_nil ?_
  refine a_block ?_
  refine a_loopP (α := Nat × List Roo) (fun q => ⟨72, [(1, .d (.sl none (l.map intD))), (2, (.ptr 1 0 0)), (5, (.own 900 0 q.2.length)), (6, (.d (.sl none (R.map rooD)))), (7, (.d (intD (q.1 : Int))))], [(900, [.rowD 64 7 (q.2.map rooD)]), (1, [prbB2 25 p])]⟩) (fun q => q.1 ≤ R.length ∧ q.2 = (R.take q.1).flatMap (fun y => vio1 p (setM l) (toLin p y)) ∧ q.2.length ≤ q.1) (fun q => R.length - q.1) ((0, [])) (⟨Nat.zero_le _, rfl, Nat.le_refl _⟩) (lep_of hF [900, 1] rfl rfl ⟨rfl, rfl, rfl, rfl, rfl, trivial⟩) ?_
  rintro ⟨k, acc⟩ ⟨hk0, hA, hL⟩
  dsimp only at hk0 hA hL ⊢
  refine a_seq ?_
  refine a_seq ?_
  refine a_region ?_
  refine Pstep.go (st_move rfl rfl) ?_
  refine Pstep.go (st_move rfl rfl) ?_
  refine Pstep.go (st_lenMap rfl Tryz.underlying22 rfl) ?_
  refine Pstep.go (st_lss rfl rfl rfl) ?_
  refine o_nil ?_
  refine a_if rfl (fun h16 => ?_) (fun h16 => ?_)
  · have hk1 : k < R.length := lt_cast h16
    refine a_skip ?_
    refine a_seq ?_
    refine a_block ?_
    refine a_seq ?_
    have hrn := hmr _ (List.getElem_mem hk1)
    refine a_region ?_
    refine Pstep.go (st_assign rfl rfl) ?_
    refine o_nil ?_
    refine a_seq ?_
    refine a_seq ?_
    refine a_region ?_
    refine Pstep.go (st_assign rfl rfl) ?_
    refine o_nil ?_
    refine a_block ?_
    refine a_loopP (α := Nat) (fun n => ⟨72, [(1, .d (.sl none (l.map intD))), (2, (.ptr 1 0 0)), (5, (.own 900 0 acc.length)), (6, (.d (.sl none (R.map rooD)))), (7, (.d (intD (k : Int)))), (8, (.d (intD (dsum p R[k].r (l.take n))))), (9, (.d (intD (n : Int))))], [(900, [.rowD 64 7 (acc.map rooD)]), (1, [prbB2 25 p])]⟩) (fun n => n ≤ l.length) (fun n => l.length - n) (0) (Nat.zero_le _) (lep_of hF [900, 1] rfl rfl ⟨rfl, rfl, rfl, rfl, rfl, rfl, rfl, trivial⟩) ?_
    rintro n hn0
    refine a_seq ?_
    refine a_seq ?_
    refine a_region ?_
    refine Pstep.go (st_move rfl rfl) ?_
    refine Pstep.go (st_move rfl rfl) ?_
    refine Pstep.go (st_lenMap rfl Tryz.underlying26 rfl) ?_
    refine Pstep.go (st_lss rfl rfl rfl) ?_
    refine o_nil ?_
    refine a_if rfl (fun h22 => ?_) (fun h22 => ?_)
    · have hn1 : n < l.length := lt_cast h22
      refine a_skip ?_
      refine a_seq ?_
      refine a_block ?_
      refine a_drawn [[], [], [1], [], [], [], [4, 5], [4, 5, 6], [3, 4, 5, 6, 7], [1, 2, 3, 4, 5, 6, 7, 8], [1, 2, 3, 4, 5, 6, 7, 8, 9], [], [], [11, 12], [11, 12, 13], [11, 12, 13, 14], [1, 2, 3, 4, 5, 6, 7, 8, 9, 10, 11, 12, 13, 14, 15], [0, 1, 2, 3, 4, 5, 6, 7, 8, 9, 10, 11, 12, 13, 14, 15, 16], [0, 1, 2, 3, 4, 5, 6, 7, 8, 9, 10, 11, 12, 13, 14, 15, 16, 17]] mixed rfl ?_
      refine dws ?_
      have hmem : l[n] ∈ p.it.map Itm.id := hin _ (List.getElem_mem hn1)
      have hix : ixI l[n] (p.it.map Itm.id) = (((p.it.map Itm.id).idxOf l[n] : Nat) : Int) := (itmOf_at hmem).choose_spec.1
      have hkx : (p.it.map Itm.id).idxOf l[n] < p.it.length := (itmOf_at hmem).choose
      have hit : itmOf p l[n] = p.it[(p.it.map Itm.id).idxOf l[n]] := (itmOf_at hmem).choose_spec.2.1
      have hgq := hv.q _ (List.getElem_mem hkx)
      have hb1 := vioS_b p R[k].r (l := setM (l.take n)) (by unfold setM; rw [List.length_map, List.length_take]; omega)
      rw [← dsum_eq] at hb1
      have hb2 := dltE_b p.it[(p.it.map Itm.id).idxOf l[n]] R[k].r
      refine d_pure [8] [] rfl rfl (fun _ => gp_none (st_move rfl rfl)) ?_
      refine d_pure [2] [] rfl rfl (fun _ => gp_none (st_fieldP rfl fi25_1 rfl rfl rfl)) ?_
      refine d_pureA [26] rfl rfl (fun _ => gp_none (st_loadP rfl rfl rfl on23 rfl)) ?_
      refine d_pureA [2] rfl rfl (fun _ => gp_none (st_loadPS rfl rfl rw25 rfl rfl rfl)) ?_
      refine d_pure [1] [] rfl rfl (fun _ => gp_none (st_move rfl rfl)) ?_
      refine d_pure [9] [] rfl rfl (fun _ => gp_none (st_move rfl rfl)) ?_
      refine d_pure [29, 30] [] rfl rfl (fun _ => gp_none (st_indexD (n) rfl rfl (rfl) (getm hn1) Tryz.underlying26 rfl sz3 rfl)) ?_
      refine d_pure [31] [] rfl rfl (fun _ => gp_none (st_loadD1 rfl rfl on3 rfl)) ?_
      refine d_pure [28, 32] [] rfl rfl (fun _ => gp_none (st_callP (find_p p l[n] (by omega)) rfl rfl)) ?_
      refine d_pure [27, 33] [] rfl rfl (fun _ => gp_none (st_indexD ((p.it.map Itm.id).idxOf l[n]) rfl rfl (hix) (getm hkx) Tryz.underlying23 rfl sz80 rfl)) ?_
      refine d_pure [34] [] rfl rfl (fun _ => gp_none (st_loadDS rfl rfl rw80 rfl)) ?_
      refine d_pure [6] [] rfl rfl (fun _ => gp_none (st_move rfl rfl)) ?_
      refine d_pure [7] [] rfl rfl (fun _ => gp_none (st_move rfl rfl)) ?_
      refine d_pure [36, 37] [] rfl rfl (fun _ => gp_none (st_indexD (k) rfl rfl (rfl) (getm hk1) Tryz.underlying22 rfl sz104 rfl)) ?_
      refine d_pure [38] [] rfl rfl (fun _ => gp_none (st_fieldFS rfl fi104_0 rfl rfl rfl)) ?_
      refine d_pure [39] [] rfl rfl (fun _ => gp_none (st_loadDS rfl rfl rw52 rfl)) ?_
      refine d_pure [35, 40] [] rfl rfl (fun _ => gp_none (st_callP (refdelta_p p.it[(p.it.map Itm.id).idxOf l[n]] R[k].r hgq.1 hgq.2.1 hgq.2.2) rfl rfl)) ?_
      refine dwc 17 rfl rfl rfl ?_
      refine dw1 18 rfl rfl ?_
      refine Pstep.go (st_add rfl rfl (IntWalk.i64_in _ (by omega)) rfl) ?_
      refine o_nil ⟨rfl, ?_⟩
      refine dw1 19 rfl rfl ?_
      refine Pstep.go (st_assign rfl rfl) ?_
      refine o_nil ⟨rfl, ?_⟩
      refine dwe ?_
      refine a_region ?_
      refine Pstep.go (st_move rfl rfl) ?_
      refine Pstep.go (st_add rfl rfl (wrapS (n + 1) (by omega)) rfl) ?_
      refine Pstep.go (st_assign rfl rfl) ?_
      refine o_nil ?_
      exact ⟨n + 1, by show n + 1 ≤ _; omega, by show l.length - (n + 1) < l.length - n; omega, lep_of hF [900, 1] rfl rfl ⟨rfl, rfl, rfl, rfl, rfl, by rw [dsum_snoc p R[k].r hn1, hit]; rfl, rfl, trivial⟩⟩
    · have hnl : l.take n = l := List.take_of_length_le (by have h := h22; omega)
      refine a_exit ?_
      refine a_seq ?_
      refine a_region ?_
      refine Pstep.go (st_move rfl rfl) ?_
      refine Pstep.go (st_move rfl rfl) ?_
      refine Pstep.go (st_indexD (k) rfl rfl (rfl) (getm hk1) Tryz.underlying22 rfl sz104 rfl) ?_
      refine Pstep.go (st_fieldF1 rfl fi104_1 rfl rfl rfl) ?_
      refine Pstep.go (st_loadD1 rfl rfl on2 rfl) ?_
      refine Pstep.go (st_assign rfl rfl) ?_
      refine o_nil ?_
      refine a_seq ?_
      refine a_seq ?_
      refine a_region ?_
      refine Pstep.go (st_move rfl rfl) ?_
      refine Pstep.go (st_lss rfl rfl rfl) ?_
      refine o_nil ?_
      refine a_if rfl (fun h49 => ?_) (fun h49 => ?_)
      · refine a_region ?_
        refine Pstep.go (st_assign rfl rfl) ?_
        refine o_nil ?_
        refine a_seq ?_
        have hb3 := vioS_b p R[k].r (l := setM (l.take n)) (by unfold setM; rw [List.length_map, List.length_take]; omega)
        rw [← dsum_eq] at hb3
        refine a_as 10 (.d (intD (max R[k].n 0))) rfl (retI (by omega)) ?_
        refine a_region ?_
        refine Pstep.go (st_move rfl rfl) ?_
        refine Pstep.go (st_lss rfl rfl rfl) ?_
        refine Pstep.go (st_move rfl rfl) ?_
        refine o_splitP 52 rfl (fun h52 => ?_) (fun h52 => ?_)
        · refine o_run rfl rfl rfl ?_
          refine Pstep.go (st_move rfl rfl) ?_
          refine o_run rfl rfl rfl ?_
          refine Pstep.go (st_move rfl rfl) ?_
          refine o_run rfl rfl rfl ?_
          refine Pstep.go (st_add rfl rfl (IntWalk.i64_in _ (by omega)) rfl) ?_
          refine o_run rfl rfl rfl ?_
          refine Pstep.go (st_lss rfl rfl rfl) ?_
          refine Pstep.go (st_pickT rfl rfl rfl rfl) ?_
          refine o_nil ?_
          refine a_if rfl (fun h57 => ?_) (fun h57 => ?_)
          · refine a_region ?_
            refine Pstep.go (st_move rfl rfl) ?_
            refine Pstep.go (st_move rfl rfl) ?_
            refine Pstep.go (st_move rfl rfl) ?_
            refine Pstep.go (st_indexD (k) rfl rfl (rfl) (getm hk1) Tryz.underlying22 rfl sz104 rfl) ?_
            refine Pstep.go (st_fieldFS rfl fi104_0 rfl rfl rfl) ?_
            refine Pstep.go (st_loadDS rfl rfl rw52 rfl) ?_
            refine Pstep.go (st_move rfl rfl) ?_
            refine Pstep.go (st_sub rfl rfl (IntWalk.i64_in _ (by omega)) rfl) ?_
            refine Pstep.go (st_move rfl rfl) ?_
            refine Pstep.go (st_sub rfl rfl (IntWalk.i64_in _ (by omega)) rfl) ?_
            refine Pstep.go (st_build zl64 pl64 rfl rfl rfl) ?_
            refine Estep.go (st_buildSlice 2 sl59 rfl rfl rfl rfl rfl rfl rfl rfl) ?_
            refine Estep.go (st_appM (acc) ([⟨R[k].r, 0 - dsum p R[k].r (l.take n) - max R[k].n 0⟩]) rfl rfl rfl rfl rfl rfl rfl rfl sl59 (by simp only [List.length_singleton]; omega) rfl rfl rfl rfl) ?_
            refine Pstep.go (st_assign rfl rfl) ?_
            refine o_nil ?_
            refine a_region ?_
            refine Pstep.go (st_move rfl rfl) ?_
            refine Pstep.go (st_add rfl rfl (wrapS (k + 1) (by omega)) rfl) ?_
            refine Pstep.go (st_assign rfl rfl) ?_
            refine o_nil ?_
            first | exact ⟨(k + 1, acc ++ [⟨R[k].r, 0 - dsum p R[k].r (l.take n) - max R[k].n 0⟩]), ⟨by show k + 1 ≤ _; omega, by show acc ++ [_] = (R.take (k + 1)).flatMap (fun y => vio1 p (setM l) (toLin p y)); rw [flat_snoc hk1, ← hA]; unfold vio1; rw [← dsum_eq, if_pos (by show max R[k].n 0 + dsum p R[k].r l < 0; rw [← hnl]; omega)]; rw [hnl]; congr 3; show _ = 0 - (max R[k].n 0 + dsum p R[k].r l); omega, by show (acc ++ [_]).length ≤ k + 1; rw [List.length_append]; simp; omega⟩, by show R.length - (k + 1) < R.length - k; omega, lep_of hF [900, 1] rfl rfl ⟨rfl, rfl, rfl, rfl, rfl, trivial⟩⟩ | exact ⟨(k + 1, acc), ⟨by show k + 1 ≤ _; omega, by show acc = (R.take (k + 1)).flatMap (fun y => vio1 p (setM l) (toLin p y)); rw [flat_snoc hk1, ← hA]; unfold vio1; rw [← dsum_eq, if_neg (by show ¬ max R[k].n 0 + dsum p R[k].r l < 0; rw [← hnl]; omega), List.append_nil], by show acc.length ≤ k + 1; omega⟩, by show R.length - (k + 1) < R.length - k; omega, lep_of hF [900, 1] rfl rfl ⟨rfl, rfl, rfl, rfl, rfl, trivial⟩⟩
          · refine a_skip ?_
            refine a_region ?_
            refine Pstep.go (st_move rfl rfl) ?_
            refine Pstep.go (st_add rfl rfl (wrapS (k + 1) (by omega)) rfl) ?_
            refine Pstep.go (st_assign rfl rfl) ?_
            refine o_nil ?_
            first | exact ⟨(k + 1, acc ++ [⟨R[k].r, 0 - dsum p R[k].r (l.take n) - max R[k].n 0⟩]), ⟨by show k + 1 ≤ _; omega, by show acc ++ [_] = (R.take (k + 1)).flatMap (fun y => vio1 p (setM l) (toLin p y)); rw [flat_snoc hk1, ← hA]; unfold vio1; rw [← dsum_eq, if_pos (by show max R[k].n 0 + dsum p R[k].r l < 0; rw [← hnl]; omega)]; rw [hnl]; congr 3; show _ = 0 - (max R[k].n 0 + dsum p R[k].r l); omega, by show (acc ++ [_]).length ≤ k + 1; rw [List.length_append]; simp; omega⟩, by show R.length - (k + 1) < R.length - k; omega, lep_of hF [900, 1] rfl rfl ⟨rfl, rfl, rfl, rfl, rfl, trivial⟩⟩ | exact ⟨(k + 1, acc), ⟨by show k + 1 ≤ _; omega, by show acc = (R.take (k + 1)).flatMap (fun y => vio1 p (setM l) (toLin p y)); rw [flat_snoc hk1, ← hA]; unfold vio1; rw [← dsum_eq, if_neg (by show ¬ max R[k].n 0 + dsum p R[k].r l < 0; rw [← hnl]; omega), List.append_nil], by show acc.length ≤ k + 1; omega⟩, by show R.length - (k + 1) < R.length - k; omega, lep_of hF [900, 1] rfl rfl ⟨rfl, rfl, rfl, rfl, rfl, trivial⟩⟩
        · refine o_pass rfl rfl rfl rfl ?_
          refine o_pass rfl rfl rfl rfl ?_
          refine o_pass rfl rfl rfl rfl ?_
          refine o_pass rfl rfl rfl rfl ?_
          refine Pstep.go (st_pickF rfl rfl rfl rfl) ?_
          refine o_nil ?_
          refine a_false rfl rfl ?_
          refine a_skip ?_
          refine a_region ?_
          refine Pstep.go (st_move rfl rfl) ?_
          refine Pstep.go (st_add rfl rfl (wrapS (k + 1) (by omega)) rfl) ?_
          refine Pstep.go (st_assign rfl rfl) ?_
          refine o_nil ?_
          first | exact ⟨(k + 1, acc ++ [⟨R[k].r, 0 - dsum p R[k].r (l.take n) - max R[k].n 0⟩]), ⟨by show k + 1 ≤ _; omega, by show acc ++ [_] = (R.take (k + 1)).flatMap (fun y => vio1 p (setM l) (toLin p y)); rw [flat_snoc hk1, ← hA]; unfold vio1; rw [← dsum_eq, if_pos (by show max R[k].n 0 + dsum p R[k].r l < 0; rw [← hnl]; omega)]; rw [hnl]; congr 3; show _ = 0 - (max R[k].n 0 + dsum p R[k].r l); omega, by show (acc ++ [_]).length ≤ k + 1; rw [List.length_append]; simp; omega⟩, by show R.length - (k + 1) < R.length - k; omega, lep_of hF [900, 1] rfl rfl ⟨rfl, rfl, rfl, rfl, rfl, trivial⟩⟩ | exact ⟨(k + 1, acc), ⟨by show k + 1 ≤ _; omega, by show acc = (R.take (k + 1)).flatMap (fun y => vio1 p (setM l) (toLin p y)); rw [flat_snoc hk1, ← hA]; unfold vio1; rw [← dsum_eq, if_neg (by show ¬ max R[k].n 0 + dsum p R[k].r l < 0; rw [← hnl]; omega), List.append_nil], by show acc.length ≤ k + 1; omega⟩, by show R.length - (k + 1) < R.length - k; omega, lep_of hF [900, 1] rfl rfl ⟨rfl, rfl, rfl, rfl, rfl, trivial⟩⟩
      · refine a_skip ?_
        refine a_seq ?_
        have hb3 := vioS_b p R[k].r (l := setM (l.take n)) (by unfold setM; rw [List.length_map, List.length_take]; omega)
        rw [← dsum_eq] at hb3
        refine a_as 10 (.d (intD (max R[k].n 0))) rfl (retI (by omega)) ?_
        refine a_region ?_
        refine Pstep.go (st_move rfl rfl) ?_
        refine Pstep.go (st_lss rfl rfl rfl) ?_
        refine Pstep.go (st_move rfl rfl) ?_
        refine o_splitP 52 rfl (fun h52 => ?_) (fun h52 => ?_)
        · refine o_run rfl rfl rfl ?_
          refine Pstep.go (st_move rfl rfl) ?_
          refine o_run rfl rfl rfl ?_
          refine Pstep.go (st_move rfl rfl) ?_
          refine o_run rfl rfl rfl ?_
          refine Pstep.go (st_add rfl rfl (IntWalk.i64_in _ (by omega)) rfl) ?_
          refine o_run rfl rfl rfl ?_
          refine Pstep.go (st_lss rfl rfl rfl) ?_
          refine Pstep.go (st_pickT rfl rfl rfl rfl) ?_
          refine o_nil ?_
          refine a_if rfl (fun h57 => ?_) (fun h57 => ?_)
          · refine a_region ?_
            refine Pstep.go (st_move rfl rfl) ?_
            refine Pstep.go (st_move rfl rfl) ?_
            refine Pstep.go (st_move rfl rfl) ?_
            refine Pstep.go (st_indexD (k) rfl rfl (rfl) (getm hk1) Tryz.underlying22 rfl sz104 rfl) ?_
            refine Pstep.go (st_fieldFS rfl fi104_0 rfl rfl rfl) ?_
            refine Pstep.go (st_loadDS rfl rfl rw52 rfl) ?_
            refine Pstep.go (st_move rfl rfl) ?_
            refine Pstep.go (st_sub rfl rfl (IntWalk.i64_in _ (by omega)) rfl) ?_
            refine Pstep.go (st_move rfl rfl) ?_
            refine Pstep.go (st_sub rfl rfl (IntWalk.i64_in _ (by omega)) rfl) ?_
            refine Pstep.go (st_build zl64 pl64 rfl rfl rfl) ?_
            refine Estep.go (st_buildSlice 3 sl59 rfl rfl rfl rfl rfl rfl rfl rfl) ?_
            refine Estep.go (st_appM (acc) ([⟨R[k].r, 0 - dsum p R[k].r (l.take n) - max R[k].n 0⟩]) rfl rfl rfl rfl rfl rfl rfl rfl sl59 (by simp only [List.length_singleton]; omega) rfl rfl rfl rfl) ?_
            refine Pstep.go (st_assign rfl rfl) ?_
            refine o_nil ?_
            refine a_region ?_
            refine Pstep.go (st_move rfl rfl) ?_
            refine Pstep.go (st_add rfl rfl (wrapS (k + 1) (by omega)) rfl) ?_
            refine Pstep.go (st_assign rfl rfl) ?_
            refine o_nil ?_
            first | exact ⟨(k + 1, acc ++ [⟨R[k].r, 0 - dsum p R[k].r (l.take n) - max R[k].n 0⟩]), ⟨by show k + 1 ≤ _; omega, by show acc ++ [_] = (R.take (k + 1)).flatMap (fun y => vio1 p (setM l) (toLin p y)); rw [flat_snoc hk1, ← hA]; unfold vio1; rw [← dsum_eq, if_pos (by show max R[k].n 0 + dsum p R[k].r l < 0; rw [← hnl]; omega)]; rw [hnl]; congr 3; show _ = 0 - (max R[k].n 0 + dsum p R[k].r l); omega, by show (acc ++ [_]).length ≤ k + 1; rw [List.length_append]; simp; omega⟩, by show R.length - (k + 1) < R.length - k; omega, lep_of hF [900, 1] rfl rfl ⟨rfl, rfl, rfl, rfl, rfl, trivial⟩⟩ | exact ⟨(k + 1, acc), ⟨by show k + 1 ≤ _; omega, by show acc = (R.take (k + 1)).flatMap (fun y => vio1 p (setM l) (toLin p y)); rw [flat_snoc hk1, ← hA]; unfold vio1; rw [← dsum_eq, if_neg (by show ¬ max R[k].n 0 + dsum p R[k].r l < 0; rw [← hnl]; omega), List.append_nil], by show acc.length ≤ k + 1; omega⟩, by show R.length - (k + 1) < R.length - k; omega, lep_of hF [900, 1] rfl rfl ⟨rfl, rfl, rfl, rfl, rfl, trivial⟩⟩
          · refine a_skip ?_
            refine a_region ?_
            refine Pstep.go (st_move rfl rfl) ?_
            refine Pstep.go (st_add rfl rfl (wrapS (k + 1) (by omega)) rfl) ?_
            refine Pstep.go (st_assign rfl rfl) ?_
            refine o_nil ?_
            first | exact ⟨(k + 1, acc ++ [⟨R[k].r, 0 - dsum p R[k].r (l.take n) - max R[k].n 0⟩]), ⟨by show k + 1 ≤ _; omega, by show acc ++ [_] = (R.take (k + 1)).flatMap (fun y => vio1 p (setM l) (toLin p y)); rw [flat_snoc hk1, ← hA]; unfold vio1; rw [← dsum_eq, if_pos (by show max R[k].n 0 + dsum p R[k].r l < 0; rw [← hnl]; omega)]; rw [hnl]; congr 3; show _ = 0 - (max R[k].n 0 + dsum p R[k].r l); omega, by show (acc ++ [_]).length ≤ k + 1; rw [List.length_append]; simp; omega⟩, by show R.length - (k + 1) < R.length - k; omega, lep_of hF [900, 1] rfl rfl ⟨rfl, rfl, rfl, rfl, rfl, trivial⟩⟩ | exact ⟨(k + 1, acc), ⟨by show k + 1 ≤ _; omega, by show acc = (R.take (k + 1)).flatMap (fun y => vio1 p (setM l) (toLin p y)); rw [flat_snoc hk1, ← hA]; unfold vio1; rw [← dsum_eq, if_neg (by show ¬ max R[k].n 0 + dsum p R[k].r l < 0; rw [← hnl]; omega), List.append_nil], by show acc.length ≤ k + 1; omega⟩, by show R.length - (k + 1) < R.length - k; omega, lep_of hF [900, 1] rfl rfl ⟨rfl, rfl, rfl, rfl, rfl, trivial⟩⟩
        · refine o_pass rfl rfl rfl rfl ?_
          refine o_pass rfl rfl rfl rfl ?_
          refine o_pass rfl rfl rfl rfl ?_
          refine o_pass rfl rfl rfl rfl ?_
          refine Pstep.go (st_pickF rfl rfl rfl rfl) ?_
          refine o_nil ?_
          refine a_false rfl rfl ?_
          refine a_skip ?_
          refine a_region ?_
          refine Pstep.go (st_move rfl rfl) ?_
          refine Pstep.go (st_add rfl rfl (wrapS (k + 1) (by omega)) rfl) ?_
          refine Pstep.go (st_assign rfl rfl) ?_
          refine o_nil ?_
          first | exact ⟨(k + 1, acc ++ [⟨R[k].r, 0 - dsum p R[k].r (l.take n) - max R[k].n 0⟩]), ⟨by show k + 1 ≤ _; omega, by show acc ++ [_] = (R.take (k + 1)).flatMap (fun y => vio1 p (setM l) (toLin p y)); rw [flat_snoc hk1, ← hA]; unfold vio1; rw [← dsum_eq, if_pos (by show max R[k].n 0 + dsum p R[k].r l < 0; rw [← hnl]; omega)]; rw [hnl]; congr 3; show _ = 0 - (max R[k].n 0 + dsum p R[k].r l); omega, by show (acc ++ [_]).length ≤ k + 1; rw [List.length_append]; simp; omega⟩, by show R.length - (k + 1) < R.length - k; omega, lep_of hF [900, 1] rfl rfl ⟨rfl, rfl, rfl, rfl, rfl, trivial⟩⟩ | exact ⟨(k + 1, acc), ⟨by show k + 1 ≤ _; omega, by show acc = (R.take (k + 1)).flatMap (fun y => vio1 p (setM l) (toLin p y)); rw [flat_snoc hk1, ← hA]; unfold vio1; rw [← dsum_eq, if_neg (by show ¬ max R[k].n 0 + dsum p R[k].r l < 0; rw [← hnl]; omega), List.append_nil], by show acc.length ≤ k + 1; omega⟩, by show R.length - (k + 1) < R.length - k; omega, lep_of hF [900, 1] rfl rfl ⟨rfl, rfl, rfl, rfl, rfl, trivial⟩⟩
  · refine a_exit ?_
    refine a_seq ?_
    have hfa : acc = R.flatMap (fun y => vio1 p (setM l) (toLin p y)) := by rw [hA, List.take_of_length_le (by have h := h16; omega)]
    refine a_freezeM (emb := rooD) 5 900 acc rfl rfl rfl rfl rfl rfl rfl ?_
    refine a_region ?_
    refine Pstep.go (st_move rfl rfl) ?_
    refine Pstep.go (st_assign rfl rfl) ?_
    refine o_nil ?_
    refine a_ret ?_
    exact ⟨_, [], [], res_of rfl, rfl, rfl, by rw [hfa], rfl⟩
end Go.Proofs.YtnamabifclidmaaGreat
/- Layer 29: problems with few items. -/
namespace Go.Proofs.YtnamabifclidmaaGreat
open Go.RowKit

abbrev u32D (n : Nat) : D := .raw (.int .u32 (n : Int))
structure Sma where
  ids : List Int
  bl : List Nat
  de : List (List Int)
  rm : List Int
abbrev rowZ (l : List Int) : D := .sl none (l.map intD)
abbrev smaD (s : Sma) : D := .agg [.sl none (s.ids.map intD), .sl none (s.bl.map u32D), .sl none (s.de.map rowZ), .sl none (s.rm.map intD)]
/-- The set's items that need what is not in it. -/
def badS (s : Sma) (x : Nat) (i : Nat) : Bool := x.testBit i && decide (anU (s.bl.getD i 0) x ≠ 0)
def admS (s : Sma) (x : Nat) : Bool := !(List.range s.bl.length).any (badS s x)
theorem any_no {n k : Nat} {p : Nat → Bool} (h : ∀ i, i < k → p i = false) (hk : ¬ k < n) : (List.range n).any p = false := by
  rw [List.any_eq_false]; intro i hi; rw [h i (by have := List.mem_range.1 hi; omega)]; simp
theorem any_yes {n k : Nat} {p : Nat → Bool} (hk : k < n) (h : p k = true) : (List.range n).any p = true := List.any_eq_true.2 ⟨k, List.mem_range.2 hk, h⟩
theorem bit_no {a i : Nat} (h : ¬ ((((a >>> i) % 2 : Nat) : Int) = 1)) : a.testBit i = false := by
  cases hh : a.testBit i with
  | false => rfl
  | true => exact absurd ((bit_iff a i).2 hh) h
set_option maxRecDepth 100000 in
theorem admS_p (s : Sma) (x : Nat) (hx : x < 4294967296) (hb : ∀ b ∈ s.bl, b < 4294967296) (hl : s.bl.length ≤ 32) : PCalls Tryz.prog 87 [.d (.ptr (smaD s)), .d (u32D x)] (boolD (admS s x)) := by
  refine a_enter Tryz.func87 rfl rfl Tryz.ntmps87 rfl rfl rfl fun F hF => ?_
  refine a_seq ?_
  refine a_region ?_
  refine Pstep.go (st_assign rfl rfl) ?_
  refine o_nil ?_
  refine a_seq ?_
  refine a_seq ?_
  refine a_region ?_
  refine Pstep.go (st_move rfl rfl) ?_
  first | refine Pstep.go (st_nilCheckP rfl rfl) ?_ | refine Pstep.go (st_nilCheckD rfl rfl) ?_ | refine Pstep.go (st_nilCheckR rfl rfl) ?_
  first | refine Pstep.go (st_fieldP rfl fi170_1 rfl rfl rfl) ?_ | refine Pstep.go (st_fieldF1 rfl fi170_1 rfl rfl rfl) ?_ | refine Pstep.go (st_fieldFS rfl fi170_1 rfl rfl rfl) ?_ | refine Pstep.go (st_fieldR rfl fi170_1 rfl rfl rfl) ?_
  first | refine Pstep.go (st_loadD1 rfl rfl on166 rfl) ?_ | refine Pstep.go (st_loadP rfl rfl rfl on166 rfl) ?_ | refine Pstep.go (st_loadR rfl rfl (rfl) rfl on166 rfl) ?_
  first | refine Pstep.go (st_lenMap rfl Tryz.underlying166 rfl) ?_ | refine Pstep.go (st_lenD rfl rfl Tryz.underlying166 rfl) ?_ | refine Pstep.go (st_lenO rfl Tryz.underlying166 rfl) ?_ | refine Pstep.go (st_lenSL rfl Tryz.underlying166 rfl) ?_ | refine Pstep.go (st_lenS rfl Tryz.underlying166 rfl) ?_
  refine Pstep.go (st_move rfl rfl) ?_
  refine o_nil ?_
  refine a_block ?_
  refine a_loop (α := Nat) (fun k => ⟨29, [(1, .d (u32D x)), (10, (.d (.sl none (s.bl.map u32D)))), (11, (.d (intD (s.bl.length : Int)))), (12, (.d (intD (k : Int))))], []⟩) (fun k => k ≤ s.bl.length ∧ ∀ i, i < k → badS s x i = false) (fun k => s.bl.length - k) (0) (⟨Nat.zero_le _, fun i h => by omega⟩) (le_of_has ⟨rfl, rfl, rfl, rfl, trivial⟩) ?_
  rintro k ⟨hk0, hk⟩
  refine a_seq ?_
  refine a_region ?_
  first | refine Pstep.go (st_lss rfl rfl rfl) ?_ | refine Pstep.go (st_lssS rfl rfl rfl) ?_
  refine o_nil ?_
  refine a_seq ?_
  first | refine a_if rfl (fun h13 => ?_) (fun h13 => ?_) | refine a_cond rfl (fun h13 => ?_) (fun h13 => ?_)
  · have hk1 : k < s.bl.length := lt_cast h13
    refine a_skip ?_
    refine a_seq ?_
    refine a_block ?_
    refine a_seq ?_
    refine a_region ?_
    refine Pstep.go (st_move rfl rfl) ?_
    have hgd := getD_at 0 hk1
    have hbk := hb _ (List.getElem_mem hk1)
    first | refine Pstep.go (st_indexD (k) rfl rfl (rfl) (getm hk1) Tryz.underlying166 rfl sz65 rfl) ?_ | refine Pstep.go (st_indexO (k) rfl rfl (rfl) (getm hk1) rfl Tryz.underlying166 sz65 rfl) ?_
    first | refine Pstep.go (st_loadD1 rfl rfl on65 rfl) ?_ | refine Pstep.go (st_loadP rfl rfl rfl on65 rfl) ?_ | refine Pstep.go (st_loadR rfl rfl (rfl) rfl on65 rfl) ?_
    refine Pstep.go (st_assign rfl rfl) ?_
    refine Pstep.go (st_assign rfl rfl) ?_
    refine o_nil ?_
    refine a_seq ?_
    refine a_region ?_
    refine Pstep.go (st_move rfl rfl) ?_
    refine Pstep.go (st_move rfl rfl) ?_
    refine Pstep.go (st_shr rfl rfl (by omega) (shrU x k (by omega)) rfl) ?_
    refine Pstep.go (st_bits rfl rfl rfl (and1U (shr_lt hx k)) rfl) ?_
    first | refine Pstep.go (st_eql rfl rfl rfl) ?_ | refine Pstep.go (st_eqlSL rfl rfl rfl) ?_ | refine Pstep.go (st_eqlS rfl rfl rfl) ?_ | refine Pstep.go (st_eqlB Tryz.underlying65 rfl rfl rfl) ?_ | refine Pstep.go (st_eqlP Tryz.underlying65 rfl rfl rfl) ?_ | refine Pstep.go (st_eqlN Tryz.underlying65 rfl rfl) ?_ | refine Pstep.go (st_eqlF Tryz.underlying65 rfl rfl rfl) ?_ | refine Pstep.go (st_eqlFN Tryz.underlying65 rfl rfl) ?_
    refine Pstep.go (st_move rfl rfl) ?_
    first | refine o_splitP 22 rfl (fun h22 => ?_) (fun h22 => ?_) | refine o_splitB 22 rfl (fun h22 => ?_) (fun h22 => ?_)
    · refine o_run rfl rfl rfl ?_
      refine Pstep.go (st_move rfl rfl) ?_
      refine o_run rfl rfl rfl ?_
      refine Pstep.go (st_move rfl rfl) ?_
      refine o_run rfl rfl rfl ?_
      refine Pstep.go (st_bits rfl rfl rfl (andNotU s.bl[k] x) rfl) ?_
      refine o_run rfl rfl rfl ?_
      first | refine Pstep.go (st_neq rfl rfl rfl) ?_ | refine Pstep.go (st_neqSL rfl rfl rfl) ?_ | refine Pstep.go (st_neqS rfl rfl rfl) ?_ | refine Pstep.go (st_neqB Tryz.underlying65 rfl rfl rfl) ?_ | refine Pstep.go (st_neqP Tryz.underlying65 rfl rfl rfl) ?_ | refine Pstep.go (st_neqN Tryz.underlying65 rfl rfl) ?_ | refine Pstep.go (st_neqF Tryz.underlying65 rfl rfl rfl) ?_ | refine Pstep.go (st_neqFN Tryz.underlying65 rfl rfl) ?_
      refine Pstep.go (st_pickT rfl rfl rfl rfl) ?_
      refine o_nil ?_
      first | refine a_if rfl (fun h27 => ?_) (fun h27 => ?_) | refine a_cond rfl (fun h27 => ?_) (fun h27 => ?_)
      · refine a_seq ?_
        refine a_region ?_
        refine Pstep.go (st_assign rfl rfl) ?_
        refine o_nil ?_
        refine a_ret ?_
        exact ⟨_, [], [], res_of rfl, rfl, rfl, retB3 (by unfold admS; rw [any_yes hk1 (by unfold badS; rw [hgd, (bit_iff x k).1 h22, Bool.true_and]; exact decide_eq_true (fun h5 => h27 (by rw [h5]; rfl)))]; rfl), rfl⟩
      · refine a_skip ?_
        refine a_region ?_
        have hbad : badS s x k = false := by unfold badS; first | (have h6 : ((anU s.bl[k] x : Nat) : Int) = 0 := Decidable.not_not.1 h27; rw [hgd]; have h3 : anU s.bl[k] x = 0 := Int.ofNat.inj h6; rw [h3]; simp; done) | (rw [bit_no h22]; rfl)
        refine Pstep.go (st_add rfl rfl (wrapS (k + 1) (by omega)) rfl) ?_
        refine Pstep.go (st_move rfl rfl) ?_
        refine o_nil ?_
        exact ⟨k + 1, ⟨by show k + 1 ≤ _; omega, fun i hi => by rcases Nat.lt_or_ge i k with h | h; exact hk i h; have e : i = k := by { omega }; subst e; exact hbad⟩, by show s.bl.length - (k + 1) < s.bl.length - k; omega, ⟨rfl, rfl, fun _ _ => Has.get (l := [(1, _), (10, _), (11, _), (12, _)]) ⟨rfl, rfl, rfl, rfl, trivial⟩⟩⟩
    · refine o_pass rfl rfl rfl rfl ?_
      refine o_pass rfl rfl rfl rfl ?_
      refine o_pass rfl rfl rfl rfl ?_
      refine o_pass rfl rfl rfl rfl ?_
      refine Pstep.go (st_pickF rfl rfl rfl rfl) ?_
      refine o_nil ?_
      refine a_false rfl rfl ?_
      refine a_skip ?_
      refine a_region ?_
      have hbad : badS s x k = false := by unfold badS; first | (have h6 : ((anU s.bl[k] x : Nat) : Int) = 0 := Decidable.not_not.1 h27; rw [hgd]; have h3 : anU s.bl[k] x = 0 := Int.ofNat.inj h6; rw [h3]; simp; done) | (rw [bit_no h22]; rfl)
      refine Pstep.go (st_add rfl rfl (wrapS (k + 1) (by omega)) rfl) ?_
      refine Pstep.go (st_move rfl rfl) ?_
      refine o_nil ?_
      exact ⟨k + 1, ⟨by show k + 1 ≤ _; omega, fun i hi => by rcases Nat.lt_or_ge i k with h | h; exact hk i h; have e : i = k := by { omega }; subst e; exact hbad⟩, by show s.bl.length - (k + 1) < s.bl.length - k; omega, ⟨rfl, rfl, fun _ _ => Has.get (l := [(1, _), (10, _), (11, _), (12, _)]) ⟨rfl, rfl, rfl, rfl, trivial⟩⟩⟩
  · refine a_exit ?_
    refine a_seq ?_
    refine a_region ?_
    refine Pstep.go (st_assign rfl rfl) ?_
    refine o_nil ?_
    refine a_ret ?_
    exact ⟨_, [], [], res_of rfl, rfl, rfl, retB3 (by unfold admS; rw [any_no hk (by have h := h13; omega)]; rfl), rfl⟩
end Go.Proofs.YtnamabifclidmaaGreat
/- Layer 29: problems with few items: feasible sets, lists, the enumeration of sets. -/
namespace Go.Proofs.YtnamabifclidmaaGreat
open Go.RowKit

def rowS (x : Nat) (r : List Int) : Int := ((List.range r.length).map fun i => if x.testBit i = true then r.getD i 0 else 0).sum
def overS (s : Sma) (x : Nat) (k : Nat) : Bool := decide (s.rm.getD k 0 + rowS x (s.de.getD k []) < 0)
def feaS (s : Sma) (x : Nat) : Bool := !(List.range s.rm.length).any (overS s x)
def rowP (x : Nat) (r : List Int) (k : Nat) (a : Int) : Int := (List.range k).foldl (fun c i => c + if x.testBit i = true then r.getD i 0 else 0) a
theorem rowP_eq (x : Nat) (r : List Int) (a : Int) : rowP x r r.length a = a + rowS x r := by
  unfold rowP rowS
  have key : ∀ (l : List Nat) (a : Int), l.foldl (fun c i => c + if x.testBit i = true then r.getD i 0 else 0) a = a + (l.map fun i => if x.testBit i = true then r.getD i 0 else 0).sum := fun l => by
    induction l with
    | nil => intro a; simp
    | cons i l ih => intro a; rw [List.foldl_cons, ih, List.map_cons, List.sum_cons]; omega
  exact key _ _
theorem rowP_snoc (x : Nat) (r : List Int) (k : Nat) (a : Int) : rowP x r (k + 1) a = rowP x r k a + if x.testBit k = true then r.getD k 0 else 0 := by
  unfold rowP; rw [List.range_succ, List.foldl_append]; rfl
theorem rowP_b {x : Nat} {r : List Int} (hr : ∀ v ∈ r, -1000000000000000 ≤ v ∧ v ≤ 1000000000000000) (a : Int) : ∀ k : Nat, k ≤ 1000 → a - k * 1000000000000000 ≤ rowP x r k a ∧ rowP x r k a ≤ a + k * 1000000000000000
  | 0, _ => by unfold rowP; simp
  | k + 1, h => by
    have ih := rowP_b (x := x) hr a k (by omega)
    rw [rowP_snoc]
    have hv : -1000000000000000 ≤ r.getD k 0 ∧ r.getD k 0 ≤ 1000000000000000 := by
      rw [List.getD_eq_getElem?_getD]
      cases hk : r[k]? with
      | none => simp
      | some v => exact hr v (List.mem_of_getElem? hk)
    split <;> omega
set_option maxRecDepth 100000 in
theorem feaS_p (s : Sma) (x : Nat) (hx : x < 4294967296) (hn : s.rm.length ≤ 100000) (hde : s.de.length = s.rm.length) (hdl : ∀ r ∈ s.de, r.length ≤ 32 ∧ ∀ v ∈ r, -1000000000000000 ≤ v ∧ v ≤ 1000000000000000) (hrm : ∀ v ∈ s.rm, 0 ≤ v ∧ v ≤ 4000000000000000) : PCalls Tryz.prog 61 [.d (.ptr (smaD s)), .d (u32D x)] (boolD (feaS s x)) := by
  refine a_enter Tryz.func61 rfl rfl Tryz.ntmps61 rfl rfl rfl fun F hF => ?_
  refine a_seq ?_
  refine a_region ?_
  refine Pstep.go (st_assign rfl rfl) ?_
  refine o_nil ?_
  refine a_seq ?_
  refine a_seq ?_
  refine a_region ?_
  refine Pstep.go (st_move rfl rfl) ?_
  first | refine Pstep.go (st_nilCheckP rfl rfl) ?_ | refine Pstep.go (st_nilCheckD rfl rfl) ?_ | refine Pstep.go (st_nilCheckR rfl rfl) ?_
  first | refine Pstep.go (st_fieldP rfl fi170_3 rfl rfl rfl) ?_ | refine Pstep.go (st_fieldF1 rfl fi170_3 rfl rfl rfl) ?_ | refine Pstep.go (st_fieldFS rfl fi170_3 rfl rfl rfl) ?_ | refine Pstep.go (st_fieldR rfl fi170_3 rfl rfl rfl) ?_
  first | refine Pstep.go (st_loadD1 rfl rfl on168 rfl) ?_ | refine Pstep.go (st_loadP rfl rfl rfl on168 rfl) ?_ | refine Pstep.go (st_loadR rfl rfl (rfl) rfl on168 rfl) ?_
  first | refine Pstep.go (st_lenMap rfl Tryz.underlying168 rfl) ?_ | refine Pstep.go (st_lenD rfl rfl Tryz.underlying168 rfl) ?_ | refine Pstep.go (st_lenO rfl Tryz.underlying168 rfl) ?_ | refine Pstep.go (st_lenSL rfl Tryz.underlying168 rfl) ?_ | refine Pstep.go (st_lenS rfl Tryz.underlying168 rfl) ?_
  refine Pstep.go (st_move rfl rfl) ?_
  refine o_nil ?_
  refine a_block ?_
  refine a_loop (α := Nat) (fun k => ⟨44, [(0, .d (.ptr (smaD s))), (1, .d (u32D x)), (12, (.d (.sl none (s.rm.map intD)))), (13, (.d (intD (s.rm.length : Int)))), (14, (.d (intD (k : Int))))], []⟩) (fun k => k ≤ s.rm.length ∧ ∀ i, i < k → overS s x i = false) (fun k => s.rm.length - k) (0) (⟨Nat.zero_le _, fun i h => by omega⟩) (le_of_has ⟨rfl, rfl, rfl, rfl, rfl, trivial⟩) ?_
  rintro k ⟨hk0, hk⟩
  refine a_seq ?_
  refine a_region ?_
  first | refine Pstep.go (st_lss rfl rfl rfl) ?_ | refine Pstep.go (st_lssS rfl rfl rfl) ?_
  refine o_nil ?_
  refine a_seq ?_
  first | refine a_if rfl (fun h15 => ?_) (fun h15 => ?_) | refine a_cond rfl (fun h15 => ?_) (fun h15 => ?_)
  · have hk1 : k < s.rm.length := lt_cast h15
    refine a_skip ?_
    refine a_seq ?_
    refine a_block ?_
    refine a_seq ?_
    refine a_region ?_
    refine Pstep.go (st_move rfl rfl) ?_
    have hkd : k < s.de.length := by omega
    have hgd := getD_at 0 hk1
    have hge := getD_at ([] : List Int) hkd
    have hrk := hrm _ (List.getElem_mem hk1)
    have hdk := hdl _ (List.getElem_mem hkd)
    first | refine Pstep.go (st_indexD (k) rfl rfl (rfl) (getm hk1) Tryz.underlying168 rfl sz2 rfl) ?_ | refine Pstep.go (st_indexO (k) rfl rfl (rfl) (getm hk1) rfl Tryz.underlying168 sz2 rfl) ?_
    first | refine Pstep.go (st_loadD1 rfl rfl on2 rfl) ?_ | refine Pstep.go (st_loadP rfl rfl rfl on2 rfl) ?_ | refine Pstep.go (st_loadR rfl rfl (rfl) rfl on2 rfl) ?_
    refine Pstep.go (st_assign rfl rfl) ?_
    refine Pstep.go (st_assign rfl rfl) ?_
    refine o_nil ?_
    refine a_seq ?_
    refine a_seq ?_
    refine a_region ?_
    refine Pstep.go (st_move rfl rfl) ?_
    first | refine Pstep.go (st_nilCheckP rfl rfl) ?_ | refine Pstep.go (st_nilCheckD rfl rfl) ?_ | refine Pstep.go (st_nilCheckR rfl rfl) ?_
    first | refine Pstep.go (st_fieldP rfl fi170_2 rfl rfl rfl) ?_ | refine Pstep.go (st_fieldF1 rfl fi170_2 rfl rfl rfl) ?_ | refine Pstep.go (st_fieldFS rfl fi170_2 rfl rfl rfl) ?_ | refine Pstep.go (st_fieldR rfl fi170_2 rfl rfl rfl) ?_
    first | refine Pstep.go (st_loadD1 rfl rfl on167 rfl) ?_ | refine Pstep.go (st_loadP rfl rfl rfl on167 rfl) ?_ | refine Pstep.go (st_loadR rfl rfl (rfl) rfl on167 rfl) ?_
    refine Pstep.go (st_move rfl rfl) ?_
    first | refine Pstep.go (st_indexD (k) rfl rfl (rfl) (getm hkd) Tryz.underlying167 rfl sz168 rfl) ?_ | refine Pstep.go (st_indexO (k) rfl rfl (rfl) (getm hkd) rfl Tryz.underlying167 sz168 rfl) ?_
    first | refine Pstep.go (st_loadD1 rfl rfl on168 rfl) ?_ | refine Pstep.go (st_loadP rfl rfl rfl on168 rfl) ?_ | refine Pstep.go (st_loadR rfl rfl (rfl) rfl on168 rfl) ?_
    first | refine Pstep.go (st_lenMap rfl Tryz.underlying168 rfl) ?_ | refine Pstep.go (st_lenD rfl rfl Tryz.underlying168 rfl) ?_ | refine Pstep.go (st_lenO rfl Tryz.underlying168 rfl) ?_ | refine Pstep.go (st_lenSL rfl Tryz.underlying168 rfl) ?_ | refine Pstep.go (st_lenS rfl Tryz.underlying168 rfl) ?_
    refine Pstep.go (st_move rfl rfl) ?_
    refine o_nil ?_
    refine a_block ?_
    refine a_loop (α := Nat) (fun j => ⟨44, [(0, .d (.ptr (smaD s))), (1, .d (u32D x)), (6, (.d (intD (rowP x s.de[k] j s.rm[k])))), (12, (.d (.sl none (s.rm.map intD)))), (13, (.d (intD (s.rm.length : Int)))), (14, (.d (intD (k : Int)))), (25, (.d (.sl none (s.de[k].map intD)))), (26, (.d (intD (s.de[k].length : Int)))), (27, (.d (intD (j : Int))))], []⟩) (fun j => j ≤ s.de[k].length) (fun j => s.de[k].length - j) (0) (Nat.zero_le _) (le_of_has ⟨rfl, rfl, rfl, rfl, rfl, rfl, rfl, rfl, rfl, trivial⟩) ?_
    rintro j hj0
    refine a_seq ?_
    refine a_region ?_
    first | refine Pstep.go (st_lss rfl rfl rfl) ?_ | refine Pstep.go (st_lssS rfl rfl rfl) ?_
    refine o_nil ?_
    refine a_seq ?_
    first | refine a_if rfl (fun h28 => ?_) (fun h28 => ?_) | refine a_cond rfl (fun h28 => ?_) (fun h28 => ?_)
    · have hj1 : j < s.de[k].length := lt_cast h28
      refine a_skip ?_
      refine a_seq ?_
      refine a_block ?_
      refine a_seq ?_
      refine a_region ?_
      refine Pstep.go (st_move rfl rfl) ?_
      have hgj := getD_at 0 hj1
      have hpb := rowP_b (x := x) hdk.2 s.rm[k] j (by omega)
      have hvj := hdk.2 _ (List.getElem_mem hj1)
      first | refine Pstep.go (st_indexD (j) rfl rfl (rfl) (getm hj1) Tryz.underlying168 rfl sz2 rfl) ?_ | refine Pstep.go (st_indexO (j) rfl rfl (rfl) (getm hj1) rfl Tryz.underlying168 sz2 rfl) ?_
      first | refine Pstep.go (st_loadD1 rfl rfl on2 rfl) ?_ | refine Pstep.go (st_loadP rfl rfl rfl on2 rfl) ?_ | refine Pstep.go (st_loadR rfl rfl (rfl) rfl on2 rfl) ?_
      refine Pstep.go (st_assign rfl rfl) ?_
      refine Pstep.go (st_assign rfl rfl) ?_
      refine o_nil ?_
      refine a_seq ?_
      refine a_region ?_
      refine Pstep.go (st_move rfl rfl) ?_
      refine Pstep.go (st_move rfl rfl) ?_
      refine Pstep.go (st_shr rfl rfl (by omega) (shrU x j (by omega)) rfl) ?_
      refine Pstep.go (st_bits rfl rfl rfl (and1U (shr_lt hx j)) rfl) ?_
      first | refine Pstep.go (st_eql rfl rfl rfl) ?_ | refine Pstep.go (st_eqlSL rfl rfl rfl) ?_ | refine Pstep.go (st_eqlS rfl rfl rfl) ?_ | refine Pstep.go (st_eqlB Tryz.underlying65 rfl rfl rfl) ?_ | refine Pstep.go (st_eqlP Tryz.underlying65 rfl rfl rfl) ?_ | refine Pstep.go (st_eqlN Tryz.underlying65 rfl rfl) ?_ | refine Pstep.go (st_eqlF Tryz.underlying65 rfl rfl rfl) ?_ | refine Pstep.go (st_eqlFN Tryz.underlying65 rfl rfl) ?_
      refine o_nil ?_
      first | refine a_if rfl (fun h36 => ?_) (fun h36 => ?_) | refine a_cond rfl (fun h36 => ?_) (fun h36 => ?_)
      · refine a_region ?_
        refine Pstep.go (st_move rfl rfl) ?_
        refine Pstep.go (st_move rfl rfl) ?_
        refine Pstep.go (st_add rfl rfl (IntWalk.i64_in _ (by omega)) rfl) ?_
        refine Pstep.go (st_assign rfl rfl) ?_
        refine o_nil ?_
        refine a_region ?_
        refine Pstep.go (st_add rfl rfl (wrapS (j + 1) (by omega)) rfl) ?_
        refine Pstep.go (st_move rfl rfl) ?_
        refine o_nil ?_
        first | exact ⟨j + 1, by show j + 1 ≤ _; omega, by show s.de[k].length - (j + 1) < s.de[k].length - j; omega, ⟨rfl, rfl, fun _ _ => Has.get (l := [(0, _), (1, _), (6, _), (12, _), (13, _), (14, _), (25, _), (26, _), (27, _)]) ⟨rfl, rfl, by rw [rowP_snoc, if_pos ((bit_iff x j).1 h36), hgj]; rfl, rfl, rfl, rfl, rfl, rfl, rfl, trivial⟩⟩⟩ | exact ⟨j + 1, by show j + 1 ≤ _; omega, by show s.de[k].length - (j + 1) < s.de[k].length - j; omega, ⟨rfl, rfl, fun _ _ => Has.get (l := [(0, _), (1, _), (6, _), (12, _), (13, _), (14, _), (25, _), (26, _), (27, _)]) ⟨rfl, rfl, by rw [rowP_snoc, if_neg (by rw [bit_no h36]; decide), Int.add_zero]; rfl, rfl, rfl, rfl, rfl, rfl, rfl, trivial⟩⟩⟩
      · refine a_skip ?_
        refine a_region ?_
        refine Pstep.go (st_add rfl rfl (wrapS (j + 1) (by omega)) rfl) ?_
        refine Pstep.go (st_move rfl rfl) ?_
        refine o_nil ?_
        first | exact ⟨j + 1, by show j + 1 ≤ _; omega, by show s.de[k].length - (j + 1) < s.de[k].length - j; omega, ⟨rfl, rfl, fun _ _ => Has.get (l := [(0, _), (1, _), (6, _), (12, _), (13, _), (14, _), (25, _), (26, _), (27, _)]) ⟨rfl, rfl, by rw [rowP_snoc, if_pos ((bit_iff x j).1 h36), hgj]; rfl, rfl, rfl, rfl, rfl, rfl, rfl, trivial⟩⟩⟩ | exact ⟨j + 1, by show j + 1 ≤ _; omega, by show s.de[k].length - (j + 1) < s.de[k].length - j; omega, ⟨rfl, rfl, fun _ _ => Has.get (l := [(0, _), (1, _), (6, _), (12, _), (13, _), (14, _), (25, _), (26, _), (27, _)]) ⟨rfl, rfl, by rw [rowP_snoc, if_neg (by rw [bit_no h36]; decide), Int.add_zero]; rfl, rfl, rfl, rfl, rfl, rfl, rfl, trivial⟩⟩⟩
    · have hov1 : rowP x s.de[k] j s.rm[k] = s.rm[k] + rowS x s.de[k] := by have e : j = s.de[k].length := by { have h := h28; omega }; rw [e, rowP_eq]
      refine a_exit ?_
      refine a_seq ?_
      refine a_region ?_
      refine Pstep.go (st_move rfl rfl) ?_
      first | refine Pstep.go (st_lss rfl rfl rfl) ?_ | refine Pstep.go (st_lssS rfl rfl rfl) ?_
      refine o_nil ?_
      first | refine a_if rfl (fun h42 => ?_) (fun h42 => ?_) | refine a_cond rfl (fun h42 => ?_) (fun h42 => ?_)
      · refine a_seq ?_
        refine a_region ?_
        refine Pstep.go (st_assign rfl rfl) ?_
        refine o_nil ?_
        refine a_ret ?_
        exact ⟨_, [], [], res_of rfl, rfl, rfl, retB3 (by unfold feaS; rw [any_yes hk1 (by unfold overS; rw [hgd, hge, ← hov1]; exact decide_eq_true h42)]; rfl), rfl⟩
      · refine a_skip ?_
        refine a_region ?_
        have hov : overS s x k = false := by unfold overS; rw [hgd, hge, ← hov1]; exact decide_eq_false h42
        refine Pstep.go (st_add rfl rfl (wrapS (k + 1) (by omega)) rfl) ?_
        refine Pstep.go (st_move rfl rfl) ?_
        refine o_nil ?_
        exact ⟨k + 1, ⟨by show k + 1 ≤ _; omega, fun i hi => by rcases Nat.lt_or_ge i k with h | h; exact hk i h; have e : i = k := by { omega }; subst e; exact hov⟩, by show s.rm.length - (k + 1) < s.rm.length - k; omega, ⟨rfl, rfl, fun _ _ => Has.get (l := [(0, _), (1, _), (12, _), (13, _), (14, _)]) ⟨rfl, rfl, rfl, rfl, rfl, trivial⟩⟩⟩
  · refine a_exit ?_
    refine a_seq ?_
    refine a_region ?_
    refine Pstep.go (st_assign rfl rfl) ?_
    refine o_nil ?_
    refine a_ret ?_
    exact ⟨_, [], [], res_of rfl, rfl, rfl, retB3 (by unfold feaS; rw [any_no hk (by have h := h15; omega)]; rfl), rfl⟩
end Go.Proofs.YtnamabifclidmaaGreat
/- Layer 29: the enumeration of sets. -/
namespace Go.Proofs.YtnamabifclidmaaGreat
open Go.RowKit

/-- All sets that have 'left' more elements than x, taken from the places from 'frm' on. -/
def enumX (n : Nat) : Nat → Nat → Nat → List Nat
  | 0, _, x => [x]
  | l + 1, frm, x => ((List.range (n + 1 - (l + 1) - frm)).map (frm + ·)).flatMap fun i => enumX n l (i + 1) (x ||| 1 <<< i)
section
variable {β : Type} (step : β → Nat → β × Bool)
/-- Whether the rounds go on. -/
def feedB : β → List Nat → Bool
  | _, [] => true
  | b, x :: r => match step b x with
    | (b', true) => feedB b' r
    | (_, false) => false
theorem feedB_cons {b : β} {x : Nat} {r : List Nat} : feedB step b (x :: r) = ((step b x).2 && feedB step (step b x).1 r) := by
  simp only [feedB]
  generalize step b x = y
  obtain ⟨y1, y2⟩ := y
  cases y2 <;> rfl
theorem feed_app2 : ∀ (b : β) (l m : List Nat), feed step b (l ++ m) = bif feedB step b l then feed step (feed step b l) m else feed step b l
  | b, [], m => rfl
  | b, x :: l, m => by
    rw [List.cons_append, feed_cons', feed_cons', feedB_cons]
    by_cases h : (step b x).2 = true
    · rw [if_pos h, if_pos h, h, Bool.true_and]; exact feed_app2 _ l m
    · have h' : (step b x).2 = false := by simpa using h
      rw [if_neg h, if_neg h, h', Bool.false_and]; rfl
theorem feedB_app : ∀ (b : β) (l m : List Nat), feedB step b (l ++ m) = (feedB step b l && feedB step (feed step b l) m)
  | b, [], m => rfl
  | b, x :: l, m => by
    rw [List.cons_append, feed_cons', feedB_cons, feedB_cons]
    by_cases h : (step b x).2 = true
    · rw [if_pos h, h, Bool.true_and, Bool.true_and]; exact feedB_app _ l m
    · have h' : (step b x).2 = false := by simpa using h
      rw [h']; rfl
theorem Feeds_app1 {P : Program} {l : Nat} {enc : Nat → List AV} {H : β → Hp} : ∀ {b : β} {r m : List Nat}, Feeds P l enc H step b (r ++ m) → Feeds P l enc H step b r
  | _, [], _, _ => trivial
  | _, _ :: _, _, h => ⟨h.1, fun hg => Feeds_app1 (h.2 hg)⟩
theorem Feeds_app2 {P : Program} {l : Nat} {enc : Nat → List AV} {H : β → Hp} : ∀ {b : β} {r m : List Nat}, Feeds P l enc H step b (r ++ m) → feedB step b r = true → Feeds P l enc H step (feed step b r) m
  | _, [], _, h, _ => h
  | b, x :: r, m, h, hb => by
    rw [feedB_cons] at hb
    by_cases hg : (step b x).2 = true
    · rw [hg, Bool.true_and] at hb
      rw [feed_cons', if_pos hg]
      exact Feeds_app2 (h.2 hg) hb
    · have h' : (step b x).2 = false := by simpa using hg
      rw [h'] at hb; cases hb
end
theorem hpIn_mono {nm nm' : List Nat} (h : ∀ f, f ∈ nm → f ∈ nm') : ∀ {H : Hp}, hpIn nm H = true → hpIn nm' H = true := by
  have hm : ∀ f, memB f nm = true → memB f nm' = true := fun f hf => memB_spec.2 (h f (memB_spec.1 hf))
  have ho : ∀ (l : List AObj), objsIn nm l = true → objsIn nm' l = true := by
    intro l
    induction l with
    | nil => intro _; rfl
    | cons o r ih =>
      intro hr
      cases o with
      | blk t cs =>
        simp only [objsIn, Bool.and_eq_true] at hr ⊢
        refine ⟨?_, ih hr.2⟩
        have key : ∀ l : List AV, okC (inNm nm) l = true → okC (inNm nm') l = true := by
          intro l
          induction l with
          | nil => intro _; rfl
          | cons a l ihl =>
            intro hq
            simp only [okC, Bool.and_eq_true] at hq ⊢
            exact ⟨AV.ok_mono (fun f _ hf => hm f hf) hq.1, ihl hq.2⟩
        exact key _ hr.1
      | row t k xs =>
        simp only [objsIn, Bool.and_eq_true, List.all_eq_true] at hr ⊢
        exact ⟨fun x hx => okL_mono (fun f _ hf => hm f hf) (hr.1 x hx), ih hr.2⟩
      | rowD t k xs => simp only [objsIn] at hr ⊢; exact ih hr
      | loop L =>
        simp only [objsIn, Bool.and_eq_true] at hr ⊢
        refine ⟨?_, ih hr.2⟩
        have key : ∀ e : List (Nat × AV), okEnv (inNm nm) e = true → okEnv (inNm nm') e = true := by
          intro e
          induction e with
          | nil => intro _; rfl
          | cons q e ihe =>
            obtain ⟨t, a⟩ := q
            intro hq
            simp only [okEnv, Bool.and_eq_true] at hq ⊢
            exact ⟨AV.ok_mono (fun f _ hf => hm f hf) hq.1, ihe hq.2⟩
        exact key _ hr.1
      | map bs es => simp only [objsIn] at hr ⊢; exact ih hr
      | iter f i c seen => simp only [objsIn, Bool.and_eq_true] at hr ⊢; exact ⟨hm _ hr.1, ih hr.2⟩
      | addr f i v => simp only [objsIn, Bool.and_eq_true] at hr ⊢; exact ⟨hm _ hr.1, ih hr.2⟩
      | any => simp only [objsIn] at hr ⊢; exact ih hr
  intro H
  induction H with
  | nil => intro _; rfl
  | cons q r ih =>
    obtain ⟨f, l⟩ := q
    intro hh
    simp only [hpIn, Bool.and_eq_true] at hh ⊢
    exact ⟨ho _ hh.1, ih hh.2⟩
theorem rest?_cons {nm : List Nat} {f : Nat} {x : List AObj} {H : Hp} (hf : memB f nm = false) (hH : rest? nm H = some []) : rest? nm ((f, x) :: H) = some [(f, x)] := by
  simp only [rest?, hH, hf]
end Go.Proofs.YtnamabifclidmaaGreat
