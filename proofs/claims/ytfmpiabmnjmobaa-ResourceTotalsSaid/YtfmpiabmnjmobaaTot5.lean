/- Layer 28: the reference's Totals and Settle; conversion back. -/
import Derived.Test.YtfmpiabmnjmobaaTot4
namespace Go.Proofs.Ytfmpiabmnjmobaa
open Go.RowKit

def itmOf (p : Prb) (id : Int) : Itm := p.it.getD ((p.it.map Itm.id).idxOf id) itm0
theorem itmOf_at {p : Prb} {id : Int} (h : id ∈ p.it.map Itm.id) : ∃ hk : (p.it.map Itm.id).idxOf id < p.it.length, ixI id (p.it.map Itm.id) = (((p.it.map Itm.id).idxOf id : Nat) : Int) ∧ itmOf p id = p.it[(p.it.map Itm.id).idxOf id] ∧ (itmOf p id).id = id := by
  have hk : (p.it.map Itm.id).idxOf id < (p.it.map Itm.id).length := List.idxOf_lt_length_iff.2 h
  have hk' : (p.it.map Itm.id).idxOf id < p.it.length := by simpa using hk
  have he : itmOf p id = p.it[(p.it.map Itm.id).idxOf id] := getD_at itm0 hk'
  refine ⟨hk', if_pos h, he, ?_⟩
  have h1 := List.getElem_idxOf hk
  rw [List.getElem_map] at h1
  rw [he]; exact h1
def setQ (p : Prb) (l : List Int) (r : Rsc) : Int := (l.map fun id => rdelta (itmOf p id) r).sum
def amtQ (p : Prb) (l : List Int) (r : Rsc) (n : Int) : Int := l.foldl (fun s id => s + rdelta (itmOf p id) r) n
theorem amtQ_eq (p : Prb) (r : Rsc) : ∀ (l : List Int) (n : Int), amtQ p l r n = n + setQ p l r
  | [], n => by simp [amtQ, setQ]
  | x :: l, n => by
    have h := amtQ_eq p r l (n + rdelta (itmOf p x) r)
    have h1 : amtQ p (x :: l) r n = amtQ p l r (n + rdelta (itmOf p x) r) := rfl
    have h2 : setQ p (x :: l) r = rdelta (itmOf p x) r + setQ p l r := by simp [setQ]
    rw [h1, h, h2]; omega
theorem amtQ_snoc (p : Prb) {l : List Int} {k : Nat} (hk : k < l.length) (r : Rsc) (n : Int) : amtQ p (l.take (k + 1)) r n = amtQ p (l.take k) r n + rdelta (itmOf p l[k]) r := by
  unfold amtQ; rw [List.take_succ_eq_append_getElem hk, List.foldl_append]; rfl
theorem rooms_valid {l : List Roo} (h : roomsE l = 0) : ∀ x ∈ l, validE x.r = 0 := fun x hx => by
  have h0 := fst0_zero.1 h
  obtain ⟨j, hj, rfl⟩ := List.getElem_of_mem hx
  have := h0 j (List.mem_range.2 hj)
  unfold rErr at this
  rw [getD_at roo0 hj] at this
  split at this
  · contradiction
  · rename_i hn; simpa using hn
theorem setQ_bound {p : Prb} (hp : prbE p = 0) {l : List Int} (hl : ∀ x ∈ l, x ∈ p.it.map Itm.id) (hn : l.length ≤ 1000) {r : Rsc} (hr : validE r = 0) : -1000000000000000000 ≤ setQ p l r ∧ setQ p l r ≤ 1000000000000000000 := by
  have := sum_bound (l := l) (f := fun id => rdelta (itmOf p id) r) (B := 1000000000000000) (fun x hx => by
    obtain ⟨hk, _, he, _⟩ := itmOf_at (hl x hx)
    show _ ≤ rdelta (itmOf p x) r ∧ _
    rw [he, rdelta_eq hr]
    simpa [Mx] using bnd_sum (items_check (prb_ok hp).2.1 _ (List.getElem_mem hk)) r) 1000 hn (by omega)
  unfold setQ; omega
theorem perm_sum {α : Type} {l m : List α} (h : l.Perm m) (f : α → Int) : (l.map f).sum = (m.map f).sum := by
  induction h with
  | nil => rfl
  | cons x _ ih => simp [ih]
  | swap x y l => simp; omega
  | trans _ _ ih1 ih2 => rw [ih1, ih2]
theorem nodup_of_ids {l : List Itm} (h : (l.map Itm.id).Nodup) : l.Nodup := by
  rw [List.Nodup, List.pairwise_map] at h
  exact h.imp fun h e => h (by rw [e])
theorem setQ_eq {p : Prb} (hp : prbE p = 0) {l : List Int} (h : setE (p.it.map Itm.id) l = 0) {r : Rsc} (hr : validE r = 0) : setQ p l r = totQ (p.it.filter (inB l)) r := by
  have hnd := items_ids (prb_ok hp).2.1
  obtain ⟨h1, h2⟩ := set_ok h
  have hperm : (l.map (itmOf p)).Perm (p.it.filter (inB l)) := by
    refine (List.perm_ext_iff_of_nodup ?_ ?_).2 fun x => ?_
    · rw [List.Nodup, List.pairwise_map]
      refine (List.Pairwise.imp_of_mem ?_ h1)
      intro a b ha hb hab e
      have e1 := (itmOf_at (h2 a ha)).choose_spec.2.2
      have e2 := (itmOf_at (h2 b hb)).choose_spec.2.2
      exact hab (by rw [← e1, ← e2, e])
    · exact (nodup_of_ids hnd).filter _
    · rw [List.mem_map, List.mem_filter]
      refine ⟨?_, fun ⟨hx, hi⟩ => ?_⟩
      · rintro ⟨a, ha, rfl⟩
        obtain ⟨hk, _, e2, e3⟩ := itmOf_at (h2 a ha)
        refine ⟨by rw [e2]; exact List.getElem_mem hk, ?_⟩
        unfold inB; rw [e3]; exact decide_eq_true ha
      · have hi : x.id ∈ l := by unfold inB at hi; simpa using hi
        refine ⟨x.id, hi, ?_⟩
        obtain ⟨hk, _, e2, e3⟩ := itmOf_at (h2 _ hi)
        exact ids_inj hnd (by rw [e2]; exact List.getElem_mem hk) hx e3
  have h3 := perm_sum hperm fun i => ctrSum (ctr i) r
  rw [List.map_map] at h3
  unfold totQ
  rw [← h3]
  unfold setQ
  congr 1
  apply List.map_congr_left
  intro a _
  exact rdelta_eq hr
set_option maxRecDepth 100000 in
theorem reftotals_p (p : Prb) (l : List Int) (hp : prbE p = 0) (hb : PrbB p) (hl : l.length ≤ 1000) : PCalls Try.prog 44 [.d (prbD p), .d (.sl none (l.map intD))] (.tup [.sl none ((if setE (p.it.map Itm.id) l = 0 then totR p l else []).map rooD), intD (setE (p.it.map Itm.id) l)]) := by
  have hb1 := hb.1
  have hb2 := hb.2.1
  have hram := rooms_amt (prb_ok hp).1
  have hrv := rooms_valid (prb_ok hp).1
  have hck := items_check (prb_ok hp).2.1
  obtain ⟨E0, hE0⟩ : ∃ e, setE (p.it.map Itm.id) l = e := ⟨_, rfl⟩
  rw [hE0]
  refine a_enter Try.func44 rfl rfl Try.ntmps44 rfl rfl rfl fun F hF => ?_
  refine a_seq ?_
  refine a_region ?_
  refine Estep.go (st_box 1 rfl rfl rfl rfl rfl rfl rfl) ?_
  refine Pstep.go (st_assign rfl rfl) ?_
  refine o_anyNil 4 rfl ?_
  refine Pstep.go (st_assign rfl rfl) ?_
  refine o_nil ?_
  refine a_seq ?_
  refine a_seq ?_
  refine a_region ?_
  refine Pstep.go (st_assign rfl rfl) ?_
  refine o_nil ?_
  refine a_block ?_
  refine a_loopP (α := Nat) (fun k => ⟨72, [(1, .d (.sl none (l.map intD))), (2, (.ptr 1 0 0)), (6, (.d (intD (k : Int))))], [(1, [prbB2 67 p])]⟩) (fun k => k ≤ l.length ∧ E0 = fst0 (((List.range l.length).drop k).map (chErr (p.it.map Itm.id) l))) (fun k => l.length - k) (0) (⟨Nat.zero_le _, hE0.symm⟩) (lep_of hF [1] rfl rfl ⟨rfl, rfl, rfl, trivial⟩) ?_
  rintro k ⟨hk0, hk⟩
  refine a_seq ?_
  refine a_seq ?_
  refine a_region ?_
  refine Pstep.go (st_move rfl rfl) ?_
  refine Pstep.go (st_move rfl rfl) ?_
  refine Pstep.go (st_lenMap rfl Try.underlying24 rfl) ?_
  refine Pstep.go (st_lss rfl rfl rfl) ?_
  refine o_nil ?_
  refine a_if rfl (fun h14 => ?_) (fun h14 => ?_)
  · have hk1 : k < l.length := lt_cast h14
    refine a_skip ?_
    refine a_seq ?_
    refine a_block ?_
    refine a_seq ?_
    refine a_seq ?_
    refine a_drawn [[], [], [], [1, 2], [1, 2, 3], [0, 1, 2, 3, 4], [0, 1, 2, 3, 4, 5]] mixed rfl ?_
    refine dws ?_
    have hEc := range_cases hk1 hk
    have hgd := getD_at 0 hk1
    refine d_pureA [2] rfl rfl (fun _ => gp_none (st_loadPS rfl rfl rw67 rfl rfl rfl)) ?_
    refine d_pure [1] [] rfl rfl (fun _ => gp_none (st_move rfl rfl)) ?_
    refine d_pure [6] [] rfl rfl (fun _ => gp_none (st_move rfl rfl)) ?_
    refine d_pure [18, 19] [] rfl rfl (fun _ => gp_none (st_indexD (k) rfl rfl (rfl) (getm hk1) Try.underlying24 rfl sz3 rfl)) ?_
    refine d_pure [20] [] rfl rfl (fun _ => gp_none (st_loadD1 rfl rfl on3 rfl)) ?_
    refine dwc 5 rfl rfl rfl ?_
    refine dw1 6 rfl rfl ?_
    refine Pstep.go (st_callP (find_p p l[k] hb2) rfl rfl) ?_
    refine o_nil ⟨rfl, ?_⟩
    refine dw1 7 rfl rfl ?_
    refine Pstep.go (st_lss rfl rfl rfl) ?_
    refine o_nil ⟨rfl, ?_⟩
    refine dwe ?_
    refine a_if rfl (fun h23 => ?_) (fun h23 => ?_)
    · refine a_seq ?_
      refine a_region ?_
      refine Pstep.go (st_assign rfl rfl) ?_
      refine o_anyNil 4 rfl ?_
      refine Pstep.go (st_assign rfl rfl) ?_
      refine o_nil ?_
      refine a_ret ?_
      exact ⟨_, [], [], res_of rfl, rfl, rfl, by rw [← hEc.2 9 (by unfold chErr; rw [hgd, if_pos (ixI_neg h23)]) (by decide)]; rfl, rfl⟩
    · refine a_skip ?_
      refine a_seq ?_
      refine a_drawn [[], [], [0, 1], [], [], [3, 4], [3, 4, 5], [0, 1, 2, 3, 4, 5, 6]] mixed rfl ?_
      refine dws ?_
      refine d_pure [1] [] rfl rfl (fun _ => gp_none (st_move rfl rfl)) ?_
      refine d_pure [6] [] rfl rfl (fun _ => gp_none (st_move rfl rfl)) ?_
      refine d_pure [24, 25] [] rfl rfl (fun _ => gp_none (st_sliceHiM (l) (k) rfl rfl rfl (rfl) (by omega) Try.underlying24 sz3 (fun _ => rfl) rfl)) ?_
      refine d_pure [1] [] rfl rfl (fun _ => gp_none (st_move rfl rfl)) ?_
      refine d_pure [6] [] rfl rfl (fun _ => gp_none (st_move rfl rfl)) ?_
      refine d_pure [27, 28] [] rfl rfl (fun _ => gp_none (st_indexD (k) rfl rfl (rfl) (getm hk1) Try.underlying24 rfl sz3 rfl)) ?_
      refine d_pure [29] [] rfl rfl (fun _ => gp_none (st_loadD1 rfl rfl on3 rfl)) ?_
      refine dwc 7 rfl rfl rfl ?_
      refine dw1 8 rfl rfl ?_
      refine Pstep.go (st_callP (has_p (l.take k) l[k] (by rw [List.length_take]; omega)) rfl rfl) ?_
      refine o_nil ⟨rfl, ?_⟩
      refine dwe ?_
      refine a_if rfl (fun h31 => ?_) (fun h31 => ?_)
      · refine a_seq ?_
        refine a_region ?_
        refine Pstep.go (st_assign rfl rfl) ?_
        refine o_anyNil 4 rfl ?_
        refine Pstep.go (st_assign rfl rfl) ?_
        refine o_nil ?_
        refine a_ret ?_
        exact ⟨_, [], [], res_of rfl, rfl, rfl, by rw [← hEc.2 7 (by unfold chErr; rw [hgd, if_neg (fun h => h (ixI_nn (by omega))), if_pos h31]) (by decide)]; rfl, rfl⟩
      · refine a_skip ?_
        refine a_region ?_
        refine Pstep.go (st_move rfl rfl) ?_
        refine Pstep.go (st_add rfl rfl (wrapS (k + 1) (by omega)) rfl) ?_
        refine Pstep.go (st_assign rfl rfl) ?_
        refine o_nil ?_
        exact ⟨k + 1, ⟨by show k + 1 ≤ _; omega, hEc.1 (by unfold chErr; rw [hgd, if_neg (fun h => h (ixI_nn (by omega))), if_neg h31])⟩, by show l.length - (k + 1) < l.length - k; omega, lep_of hF [1] rfl (rfl) ⟨rfl, rfl, rfl, trivial⟩⟩
  · refine a_exit ?_
    refine a_seq ?_
    have hz : E0 = 0 := by rw [hk, List.drop_of_length_le (by have h := h14; simp only [List.length_range]; omega)]; rfl
    have hso := set_ok (hE0.trans hz)
    refine a_region ?_
    refine Pstep.go (st_assign rfl rfl) ?_
    refine o_nil ?_
    refine a_seq ?_
    refine a_seq ?_
    refine a_adopt 7 900 sl58 rfl rfl rfl rfl ?_
    refine a_region ?_
    refine Pstep.go (st_assign rfl rfl) ?_
    refine o_nil ?_
    refine a_block ?_
    refine a_loopP (α := List Roo) (fun acc => ⟨72, [(1, .d (.sl none (l.map intD))), (2, (.ptr 1 0 0)), (7, (.own 900 0 acc.length)), (8, (.d (intD (acc.length : Int))))], [(900, [.rowD 61 7 (acc.map rooD)]), (1, [prbB2 67 p])]⟩) (fun acc => acc.length ≤ p.ro.length ∧ acc = (totR p l).take acc.length) (fun acc => p.ro.length - acc.length) ([]) (⟨Nat.zero_le _, by simp⟩) (lep_of hF [900, 1] rfl rfl ⟨rfl, rfl, rfl, rfl, trivial⟩) ?_
    rintro acc ⟨ha0, hA⟩
    refine a_seq ?_
    refine a_seq ?_
    refine a_region ?_
    refine Pstep.go (st_move rfl rfl) ?_
    refine Pstep.go (st_fieldP rfl fi67_0 rfl rfl rfl) ?_
    refine Pstep.go (st_loadP rfl rfl rfl on58 rfl) ?_
    refine Pstep.go (st_lenMap rfl Try.underlying58 rfl) ?_
    refine Pstep.go (st_lss rfl rfl rfl) ?_
    refine o_nil ?_
    refine a_if rfl (fun h36 => ?_) (fun h36 => ?_)
    · have ha1 : acc.length < p.ro.length := lt_cast h36
      refine a_skip ?_
      refine a_seq ?_
      refine a_block ?_
      refine a_seq ?_
      have hra := hram _ (List.getElem_mem ha1)
      have hrva := hrv _ (List.getElem_mem ha1)
      refine a_region ?_
      refine Pstep.go (st_fieldP rfl fi67_0 rfl rfl rfl) ?_
      refine Pstep.go (st_loadP rfl rfl rfl on58 rfl) ?_
      refine Pstep.go (st_move rfl rfl) ?_
      refine Pstep.go (st_indexD (acc.length) rfl rfl (rfl) (getm ha1) Try.underlying58 rfl sz61 rfl) ?_
      refine Pstep.go (st_loadDS rfl rfl rw61 rfl) ?_
      refine Estep.go (st_alloc 2 zl61 rfl rfl rfl rfl) ?_
      refine Estep.go (st_storeP rfl rfl rfl rfl rfl rfl rfl sz61) ?_
      refine o_nil ?_
      refine a_seq ?_
      refine a_seq ?_
      refine a_region ?_
      refine Pstep.go (st_assign rfl rfl) ?_
      refine o_nil ?_
      refine a_block ?_
      refine a_loopP (α := Nat) (fun m => ⟨72, [(1, .d (.sl none (l.map intD))), (2, (.ptr 1 0 0)), (7, (.own 900 0 acc.length)), (8, (.d (intD (acc.length : Int)))), (9, (.ptr 2 0 0)), (10, (.d (intD (m : Int))))], [(2, [.blk 61 [.d (intD p.ro[acc.length].r.k), .d (strD p.ro[acc.length].r.acc.o), .d (intD p.ro[acc.length].r.acc.k), .d (strD p.ro[acc.length].r.acc.a), .d (strD p.ro[acc.length].r.f), .d (strD p.ro[acc.length].r.t), .d (intD (amtQ p (l.take m) p.ro[acc.length].r p.ro[acc.length].n))]]), (900, [.rowD 61 7 (acc.map rooD)]), (1, [prbB2 67 p])]⟩) (fun m => m ≤ l.length) (fun m => l.length - m) (0) (Nat.zero_le _) (lep_of hF [2, 900, 1] rfl rfl ⟨rfl, rfl, rfl, rfl, rfl, rfl, trivial⟩) ?_
      rintro m hm0
      refine a_seq ?_
      refine a_seq ?_
      refine a_region ?_
      refine Pstep.go (st_move rfl rfl) ?_
      refine Pstep.go (st_move rfl rfl) ?_
      refine Pstep.go (st_lenMap rfl Try.underlying24 rfl) ?_
      refine Pstep.go (st_lss rfl rfl rfl) ?_
      refine o_nil ?_
      refine a_if rfl (fun h47 => ?_) (fun h47 => ?_)
      · have hm1 : m < l.length := lt_cast h47
        refine a_skip ?_
        refine a_seq ?_
        refine a_block ?_
        refine a_drawn [[], [0], [], [2], [], [], [], [5, 6], [5, 6, 7], [4, 5, 6, 7, 8], [2, 3, 4, 5, 6, 7, 8, 9], [2, 3, 4, 5, 6, 7, 8, 9, 10], [], [12], [2, 3, 4, 5, 6, 7, 8, 9, 10, 11, 12, 13], [0, 1, 2, 3, 4, 5, 6, 7, 8, 9, 10, 11, 12, 13, 14], [0, 1, 2, 3, 4, 5, 6, 7, 8, 9, 10, 11, 12, 13, 14, 15], [0, 1, 2, 3, 4, 5, 6, 7, 8, 9, 10, 11, 12, 13, 14, 15, 16]] mixed rfl ?_
        refine dws ?_
        have hmem : l[m] ∈ p.it.map Itm.id := hso.2 _ (List.getElem_mem hm1)
        have hix : ixI l[m] (p.it.map Itm.id) = (((p.it.map Itm.id).idxOf l[m] : Nat) : Int) := (itmOf_at hmem).choose_spec.1
        have hkx : (p.it.map Itm.id).idxOf l[m] < p.it.length := (itmOf_at hmem).choose
        have hit : itmOf p l[m] = p.it[(p.it.map Itm.id).idxOf l[m]] := (itmOf_at hmem).choose_spec.2.1
        have hci := hck _ (List.getElem_mem hkx)
        have hq := setQ_bound hp (l := l.take m) (fun x hx => hso.2 x (List.mem_of_mem_take hx)) (by rw [List.length_take]; omega) hrva
        have hq2 := amtQ_eq p p.ro[acc.length].r (l.take m) p.ro[acc.length].n
        have hd1 := bnd_sum hci p.ro[acc.length].r
        rw [← rdelta_eq hrva] at hd1
        simp only [Mx] at hd1
        refine d_pure [9] [] rfl rfl (fun _ => gp_none (st_fieldP rfl fi61_1 rfl rfl rfl)) ?_
        refine d_pureA [50] rfl rfl (fun _ => gp_none (st_loadP rfl rfl rfl on2 rfl)) ?_
        refine d_pure [2] [] rfl rfl (fun _ => gp_none (st_fieldP rfl fi67_1 rfl rfl rfl)) ?_
        refine d_pureA [52] rfl rfl (fun _ => gp_none (st_loadP rfl rfl rfl on65 rfl)) ?_
        refine d_pureA [2] rfl rfl (fun _ => gp_none (st_loadPS rfl rfl rw67 rfl rfl rfl)) ?_
        refine d_pure [1] [] rfl rfl (fun _ => gp_none (st_move rfl rfl)) ?_
        refine d_pure [10] [] rfl rfl (fun _ => gp_none (st_move rfl rfl)) ?_
        refine d_pure [55, 56] [] rfl rfl (fun _ => gp_none (st_indexD (m) rfl rfl (rfl) (getm hm1) Try.underlying24 rfl sz3 rfl)) ?_
        refine d_pure [57] [] rfl rfl (fun _ => gp_none (st_loadD1 rfl rfl on3 rfl)) ?_
        refine d_pure [54, 58] [] rfl rfl (fun _ => gp_none (st_callP (find_p p l[m] hb2) rfl rfl)) ?_
        refine d_pure [53, 59] [] rfl rfl (fun _ => gp_none (st_indexD ((p.it.map Itm.id).idxOf l[m]) rfl rfl (hix) (getm hkx) Try.underlying65 rfl sz26 rfl)) ?_
        refine d_pure [60] [] rfl rfl (fun _ => gp_none (st_loadDS rfl rfl rw26 rfl)) ?_
        refine d_pure [9] [] rfl rfl (fun _ => gp_none (st_fieldP rfl fi61_0 rfl rfl rfl)) ?_
        refine d_pureA [62] rfl rfl (fun _ => gp_none (st_loadPS rfl rfl rw48 rfl rfl rfl)) ?_
        refine d_pure [61, 63] [] rfl rfl (fun _ => gp_none (st_callP (rdelta_p p.it[(p.it.map Itm.id).idxOf l[m]] p.ro[acc.length].r (check_ok hci).1) rfl rfl)) ?_
        refine dwc 15 rfl rfl rfl ?_
        refine dw1 16 rfl rfl ?_
        refine Pstep.go (st_add rfl rfl (IntWalk.i64_in _ (by omega)) rfl) ?_
        refine o_nil ⟨rfl, ?_⟩
        refine dw1 17 rfl rfl ?_
        refine Pstep.go (st_fieldP rfl fi61_1 rfl rfl rfl) ?_
        refine o_nil ⟨rfl, ?_⟩
        refine dw1 18 rfl rfl ?_
        refine Estep.go (st_storeP rfl rfl rfl rfl rfl rfl rfl sz2) ?_
        refine o_nil ⟨rfl, ?_⟩
        refine dwe ?_
        refine a_region ?_
        refine Pstep.go (st_move rfl rfl) ?_
        refine Pstep.go (st_add rfl rfl (wrapS (m + 1) (by omega)) rfl) ?_
        refine Pstep.go (st_assign rfl rfl) ?_
        refine o_nil ?_
        exact ⟨m + 1, by show m + 1 ≤ _; omega, by show l.length - (m + 1) < l.length - m; omega, lep_of hF [2, 900, 1] rfl (by rw [amtQ_snoc p hm1, hit]; rfl) ⟨rfl, rfl, rfl, rfl, rfl, rfl, trivial⟩⟩
      · have hmf : l.take m = l := List.take_of_length_le (by have h := h47; omega)
        refine a_exit ?_
        refine a_region ?_
        refine Pstep.go (st_move rfl rfl) ?_
        refine Pstep.go (st_loadPS rfl rfl rw61 rfl rfl rfl) ?_
        refine Estep.go (st_buildSlice 3 sl58 rfl rfl rfl rfl rfl rfl rfl rfl) ?_
        refine Estep.go (st_appM (acc) ([⟨p.ro[acc.length].r, amtQ p (l.take m) p.ro[acc.length].r p.ro[acc.length].n⟩]) rfl rfl rfl rfl rfl rfl rfl rfl sl58 (by simp only [List.length_singleton]; omega) rfl rfl rfl rfl) ?_
        refine Pstep.go (st_assign rfl rfl) ?_
        refine o_nil ?_
        refine a_region ?_
        refine Pstep.go (st_move rfl rfl) ?_
        refine Pstep.go (st_add rfl rfl (wrapA acc (⟨p.ro[acc.length].r, amtQ p (l.take m) p.ro[acc.length].r p.ro[acc.length].n⟩ : Roo) (by omega)) rfl) ?_
        refine Pstep.go (st_assign rfl rfl) ?_
        refine o_nil ?_
        exact ⟨acc ++ [⟨p.ro[acc.length].r, amtQ p (l.take m) p.ro[acc.length].r p.ro[acc.length].n⟩], ⟨by rw [List.length_append]; show acc.length + 1 ≤ _; omega, by rw [List.length_append]; show _ = (totR p l).take (acc.length + 1); rw [List.take_succ_eq_append_getElem (by unfold totR; simpa using ha1), ← hA]; congr 1; unfold totR; rw [hmf, List.getElem_map, amtQ_eq, setQ_eq hp (hE0.trans hz) hrva]⟩, by rw [List.length_append]; show p.ro.length - (acc.length + 1) < p.ro.length - acc.length; omega, lep_of hF [900, 1] rfl (rfl) ⟨rfl, rfl, rfl, rfl, trivial⟩⟩
    · refine a_exit ?_
      refine a_seq ?_
      have hfa : acc = totR p l := by rw [hA]; exact List.take_of_length_le (by unfold totR; rw [List.length_map]; have h := h36; omega)
      refine a_freezeM (emb := rooD) 7 900 acc rfl rfl rfl rfl rfl rfl rfl ?_
      refine a_region ?_
      refine Pstep.go (st_move rfl rfl) ?_
      refine Pstep.go (st_assign rfl rfl) ?_
      refine o_anyNil 4 rfl ?_
      refine Pstep.go (st_assign rfl rfl) ?_
      refine o_nil ?_
      refine a_ret ?_
      exact ⟨_, [], [], res_of rfl, rfl, rfl, by rw [hz, hfa]; rfl, rfl⟩
end Go.Proofs.Ytfmpiabmnjmobaa
