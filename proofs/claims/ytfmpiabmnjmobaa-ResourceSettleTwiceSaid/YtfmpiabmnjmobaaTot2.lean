/- Layer 28: Totals. -/
import Derived.Test.YtfmpiabmnjmobaaTot1
namespace Go.Proofs.Ytfmpiabmnjmobaa
open Go.RowKit

theorem ctrSum_cons (x : Rsc × Int) (l : List (Rsc × Int)) (r : Rsc) : ctrSum (x :: l) r = (if x.1 = r then x.2 else 0) + ctrSum l r := by simp [ctrSum]
theorem ctrSum_perm {l m : List (Rsc × Int)} (h : l.Perm m) (r : Rsc) : ctrSum l r = ctrSum m r := by
  induction h with
  | nil => rfl
  | cons x _ ih => rw [ctrSum_cons, ctrSum_cons, ih]
  | swap x y l => simp only [ctrSum_cons]; omega
  | trans _ _ ih1 ih2 => rw [ih1, ih2]
theorem ctrSum_none {l : List (Rsc × Int)} {r : Rsc} (h : r ∉ l.map Prod.fst) : ctrSum l r = 0 := by
  induction l with
  | nil => rfl
  | cons x l ih =>
    rw [List.map_cons, List.mem_cons] at h
    rw [ctrSum_cons, if_neg (fun e => h (.inl e.symm)), ih (fun h' => h (.inr h'))]; rfl
theorem ctrSum_mem {l : List (Rsc × Int)} (hn : (l.map Prod.fst).Nodup) {r : Rsc} {v : Int} (h : (r, v) ∈ l) : ctrSum l r = v := by
  induction l with
  | nil => cases h
  | cons x l ih =>
    rw [List.map_cons, List.nodup_cons] at hn
    rw [ctrSum_cons]
    rcases List.mem_cons.1 h with h | h
    · subst h
      rw [if_pos rfl, ctrSum_none hn.1]; show v + 0 = v; omega
    · rw [if_neg (fun e => hn.1 (by rw [e]; exact List.mem_map.2 ⟨_, h, rfl⟩)), ih hn.2 h]; omega
theorem ctrSum_sumL (c : List (Rsc × Int)) (r : Rsc) : ctrSum (sumL c) r = ctrSum c r := by
  by_cases h : r ∈ (sumL c).map Prod.fst
  · obtain ⟨⟨r', v⟩, hx, e⟩ := List.mem_map.1 h
    have e : r' = r := e
    subst e
    rw [ctrSum_mem (sumL_nodup c) hx, ((sumL_mem c r' v).1 hx).2]
  · rw [ctrSum_none h, ctrSum_none fun h' => h ((sumL_keys c r).2 h')]
theorem lft_sub {α β : Type} {m : List (α × β)} {B seen : List Nat} {x : α × β} (h : x ∈ lft m B seen) : x ∈ m := by
  unfold lft at h
  obtain ⟨y, hy, rfl⟩ := List.mem_map.1 h
  exact (List.of_mem_zip (a := y.1) (b := y.2) (List.mem_filter.1 hy).1).1
theorem lft_len {α β : Type} {m : List (α × β)} {B seen : List Nat} : (lft m B seen).length ≤ m.length := by
  unfold lft
  rw [List.length_map]
  refine Nat.le_trans (List.length_filter_le _ _) ?_
  rw [List.length_zip]; omega
def totQ (l : List Itm) (r : Rsc) : Int := (l.map fun i => ctrSum (ctr i) r).sum
theorem totQ_snoc (l : List Itm) (i : Itm) (r : Rsc) : totQ (l ++ [i]) r = totQ l r + ctrSum (ctr i) r := by simp [totQ]
def inB (l : List Int) (i : Itm) : Bool := decide (i.id ∈ l)
theorem items_check {l : List Itm} (h : itemsE l = 0) : ∀ i ∈ l, checkE i = 0 := fun i hi => by
  have h0 := fst0_zero.1 h
  obtain ⟨j, hj, rfl⟩ := List.getElem_of_mem hi
  have := h0 j (List.mem_range.2 hj)
  unfold iErr at this
  rw [getD_at itm0 hj] at this
  split at this
  · contradiction
  · rename_i hn; simpa using hn
theorem bnd_sum {i : Itm} (h : checkE i = 0) (r : Rsc) : -Mx ≤ ctrSum (ctr i) r ∧ ctrSum (ctr i) r ≤ Mx := by
  have hb := (check_ok h).2.2.2.2.2.2.2.2
  unfold bndE at hb
  split at hb
  · cases hb
  · rename_i hn
    by_cases hr : r ∈ (sumL (ctr i)).map Prod.fst
    · obtain ⟨⟨r', v⟩, hx, e⟩ := List.mem_map.1 hr
      have e : r' = r := e
      subst e
      have hv := ((sumL_mem _ _ _).1 hx).2
      rw [← hv]
      exact Decidable.not_not.1 fun hh => hn ⟨_, hx, hh⟩
    · rw [ctrSum_none fun h' => hr ((sumL_keys _ r).2 h')]; simp only [Mx]; omega
theorem bnd_E {i : Itm} (h : checkE i = 0) : Bnd (sumL (ctr i)) := fun x hx => by
  have hv := ((sumL_mem (ctr i) x.1 x.2).1 hx).2
  rw [hv]; simpa [Mx] using bnd_sum h x.1
theorem len_E {i : Itm} (h : checkE i = 0) : (sumL (ctr i)).length ≤ 1280 := by
  have hb := (check_ok h).1
  have h1 := hb.po; have h2 := hb.pa
  have := sumL_length (ctr i)
  rw [ctr_length] at this; omega
theorem totQ_bound {l : List Itm} (h : ∀ i ∈ l, checkE i = 0) (hl : l.length ≤ 1000) (r : Rsc) : -1000000000000000000 ≤ totQ l r ∧ totQ l r ≤ 1000000000000000000 := by
  have := sum_bound (l := l) (f := fun i => ctrSum (ctr i) r) (B := 1000000000000000) (fun i hi => by simpa [Mx] using bnd_sum (h i hi) r) 1000 hl (by omega)
  unfold totQ; omega
def totR (p : Prb) (l : List Int) : List Roo := p.ro.map fun x => ⟨x.r, x.n + totQ (p.it.filter (inB l)) x.r⟩
theorem rooms_amt {l : List Roo} (h : roomsE l = 0) : ∀ x ∈ l, -4000000000000000 ≤ x.n ∧ x.n ≤ 4000000000000000 := fun x hx => by
  have h0 := fst0_zero.1 h
  obtain ⟨j, hj, rfl⟩ := List.getElem_of_mem hx
  have := h0 j (List.mem_range.2 hj)
  unfold rErr at this
  rw [getD_at roo0 hj] at this
  split at this
  · contradiction
  · split at this
    · cases this
    · rename_i hn; simp only [Mx] at hn; omega
theorem fil_snoc {α : Type} {p : α → Bool} {l : List α} {k : Nat} (hk : k < l.length) : (l.take (k + 1)).filter p = (l.take k).filter p ++ (if p l[k] then [l[k]] else []) := flt_snoc hk
set_option maxRecDepth 100000 in
theorem totals_p (p : Prb) (l : List Int) (hb : PrbB p) (hl : l.length ≤ 100000) (h1000 : p.it.length ≤ 1000) : PCalls Try.prog 41 [.d (prbD p), .d (.sl none (l.map intD))] (.tup [.sl none ((if choE p l = 0 then totR p l else []).map rooD), intD (choE p l)]) := by
  by_cases hE : choE p l = 0
  · have hc := (chosen_ok p l hb hl hE).by [(4, 40)] rfl
    have h0 : prbE p = 0 := by
      unfold choE at hE; split at hE
      · exact hE
      · rename_i h; simpa using h
    have hck := items_check (prb_ok h0).2.1
    have hram := rooms_amt (prb_ok h0).1
    have hb1 := hb.1
    rw [if_pos hE, hE]
    refine a_enter Try.func41 rfl rfl Try.ntmps41 rfl rfl rfl fun F hF => ?_
    refine a_seq ?_
    refine a_region ?_
    refine Estep.go (st_box 1 rfl rfl rfl rfl rfl rfl rfl) ?_
    refine Pstep.go (st_assign rfl rfl) ?_
    refine Pstep.go (st_assign rfl rfl) ?_
    refine o_nil ?_
    refine a_seq ?_
    refine a_region ?_
    refine Pstep.go (st_loadPS rfl rfl rw72 rfl rfl rfl) ?_
    refine Pstep.go (st_move rfl rfl) ?_
    refine Estep.go (st_callD hc rfl [40] ⟨rfl, trivial⟩ rfl rfl rfl rfl rfl rfl rfl rfl rfl) ?_
    refine Pstep.go (st_move rfl rfl) ?_
    refine Pstep.go (st_extract rfl rfl rfl) ?_
    refine Pstep.go (st_extract rfl rfl rfl) ?_
    refine Pstep.go (st_assign rfl rfl) ?_
    refine Pstep.go (st_assign rfl rfl) ?_
    refine o_nil ?_
    refine a_seq ?_
    refine a_seq ?_
    refine a_region ?_
    refine Pstep.go (st_move rfl rfl) ?_
    refine Pstep.go (st_neq rfl rfl rfl) ?_
    refine o_nil ?_
    refine a_false rfl ((by decide)) ?_
    refine a_skip ?_
    refine a_seq ?_
    refine a_region ?_
    refine Estep.go (st_makeMap 2 rfl rfl rfl rfl) ?_
    refine Pstep.go (st_assign rfl rfl) ?_
    refine o_nil ?_
    refine a_seq ?_
    refine a_seq ?_
    refine a_region ?_
    refine Pstep.go (st_fieldP rfl fi72_1 rfl rfl rfl) ?_
    refine Pstep.go (st_loadP rfl rfl rfl on70 rfl) ?_
    refine Pstep.go (st_lenMap rfl Try.underlying70 rfl) ?_
    refine Pstep.go (st_move rfl rfl) ?_
    refine o_nil ?_
    refine a_block ?_
    refine a_loopP (α := Nat × List (Rsc × Int)) (fun q => ⟨76, [(2, (.ptr 1 0 0)), (6, (.map 40 0)), (8, (.map 2 0)), (27, (.d (.sl none (p.it.map itmD)))), (28, (.d (intD (p.it.length : Int)))), (29, (.d (intD (q.1 : Int))))], [(1, [prbB2 72 p]), (40, [mapC intD boolD (setM l)]), (2, [mapC rscD intD q.2])]⟩) (fun q => q.1 ≤ p.it.length ∧ ∀ r, mget q.2 r 0 = totQ ((p.it.take q.1).filter (inB l)) r) (fun q => p.it.length - q.1) ((0, [])) (⟨Nat.zero_le _, fun _ => rfl⟩) (lep_of hF [1, 40, 2] rfl rfl ⟨rfl, rfl, rfl, rfl, rfl, rfl, trivial⟩) ?_
    rintro ⟨k, M⟩ ⟨hk0, hM⟩
    dsimp only at hk0 hM ⊢
    refine a_seq ?_
    refine a_region ?_
    refine Pstep.go (st_lss rfl rfl rfl) ?_
    refine o_nil ?_
    refine a_seq ?_
    refine a_if rfl (fun h30 => ?_) (fun h30 => ?_)
    · have hk1 : k < p.it.length := lt_cast h30
      refine a_skip ?_
      refine a_seq ?_
      refine a_block ?_
      refine a_seq ?_
      refine a_region ?_
      have hci := hck _ (List.getElem_mem hk1)
      have hs := (sums_c p.it[k] (check_ok hci).1).by [(2, 41)] rfl
      have hEb := bnd_E hci
      have hEl := len_E hci
      have hEs := fun r => ctrSum_sumL (ctr p.it[k]) r
      have hEn := sumL_nodup (ctr p.it[k])
      have hT := totQ_bound (l := (p.it.take k).filter (inB l)) (fun i hi => hck i (List.mem_of_mem_take (List.mem_filter.1 hi).1)) (Nat.le_trans (List.length_filter_le _ _) (by rw [List.length_take]; omega))
      obtain ⟨E, hEE⟩ : ∃ E, sumL (ctr p.it[k]) = E := ⟨_, rfl⟩
      rw [hEE] at hs hEb hEl hEs hEn
      refine Pstep.go (st_indexD (k) rfl rfl (rfl) (getm hk1) Try.underlying70 rfl sz33 rfl) ?_
      refine Pstep.go (st_loadDS rfl rfl rw33 rfl) ?_
      refine Estep.go (st_alloc 3 zl33 rfl rfl rfl rfl) ?_
      refine Estep.go (st_storeP rfl rfl rfl rfl rfl rfl rfl sz33) ?_
      refine o_nil ?_
      refine a_seq ?_
      refine a_seq ?_
      refine a_region ?_
      refine Pstep.go (st_move rfl rfl) ?_
      refine Pstep.go (st_fieldP rfl fi33_0 rfl rfl rfl) ?_
      refine Pstep.go (st_loadP rfl rfl rfl on3 rfl) ?_
      refine Pstep.go (st_look (setM l) (p.it[k].id) (false) _ rfl rfl rfl mt125 kt3 za4 rfl rfl) ?_
      rw [setM_get]
      refine Pstep.go (st_notP rfl rfl) ?_
      refine o_nil ?_
      refine a_if rfl (fun h37 => ?_) (fun h37 => ?_)
      · refine a_exit ?_
        refine a_region ?_
        refine Pstep.go (st_add rfl rfl (wrapS (k + 1) (by omega)) rfl) ?_
        refine Pstep.go (st_move rfl rfl) ?_
        refine o_nil ?_
        exact ⟨(k + 1, M), ⟨by show k + 1 ≤ _; omega, fun r => by show mget M r 0 = totQ ((p.it.take (k + 1)).filter (inB l)) r; rw [fil_snoc hk1, if_neg (by unfold inB; simpa using h37), List.append_nil]; exact hM r⟩, by show p.it.length - (k + 1) < p.it.length - k; omega, lep_of hF [1, 40, 2] rfl (rfl) ⟨rfl, rfl, rfl, rfl, rfl, rfl, trivial⟩⟩
      · refine a_skip ?_
        refine a_seq ?_
        refine a_region ?_
        refine Pstep.go (st_loadPS rfl rfl rw33 rfl rfl rfl) ?_
        refine Estep.go (st_callD hs rfl [41] ⟨rfl, trivial⟩ rfl rfl rfl rfl rfl rfl rfl rfl rfl) ?_
        refine Estep.go (st_range 4 rfl rfl rfl mt115 rfl rfl rfl rfl) ?_
        refine o_nil ?_
        refine a_block ?_
        refine a_loopP (α := List Nat × List (Rsc × Int)) (fun q => ⟨76, [(2, (.ptr 1 0 0)), (6, (.map 40 0)), (8, (.map 2 0)), (27, (.d (.sl none (p.it.map itmD)))), (28, (.d (intD (p.it.length : Int)))), (29, (.d (intD (k : Int)))), (40, (.ptr 4 0 0))], [(4, [.iter 41 0 E.length q.1]), (41, [mapC rscD intD E]), (1, [prbB2 72 p]), (40, [mapC intD boolD (setM l)]), (2, [mapC rscD intD q.2])]⟩) (fun q => ∀ r, mget q.2 r 0 + ctrSum (lft E (List.range E.length) q.1) r = totQ ((p.it.take k).filter (inB l)) r + ctrSum E r) (fun q => (lft E (List.range E.length) q.1).length) (([], M)) (fun r => by show mget M r 0 + ctrSum (lft E (List.range E.length) []) r = _; rw [lft_start (by simp), hM r]) (lep_of hF [4, 41, 1, 40, 2] rfl rfl ⟨rfl, rfl, rfl, rfl, rfl, rfl, rfl, trivial⟩) ?_
        rintro ⟨seen, N⟩ hI
        dsimp only at hI ⊢
        refine a_seq ?_
        refine a_region ?_
        refine o_next (E) rfl rfl rfl rfl (fun hl41 => ?_) (fun j41 b41 k41 v41 hm41 hb41 hB41 hp41 => ⟨_, rfl, ?_⟩)
        · have hfin : ∀ r, mget N r 0 = totQ ((p.it.take k).filter (inB l)) r + ctrSum (ctr p.it[k]) r := fun r => by have h1 := hI r; rw [hl41] at h1; rw [← hEs r]; have h2 : ctrSum ([] : List (Rsc × Int)) r = 0 := rfl; omega
          refine Pstep.go (st_extract rfl rfl rfl) ?_
          refine o_nil ?_
          refine a_seq ?_
          refine a_false rfl rfl ?_
          refine a_exit ?_
          refine a_region ?_
          refine Pstep.go (st_add rfl rfl (wrapS (k + 1) (by omega)) rfl) ?_
          refine Pstep.go (st_move rfl rfl) ?_
          refine o_nil ?_
          exact ⟨(k + 1, N), ⟨by show k + 1 ≤ _; omega, fun r => by show mget N r 0 = totQ ((p.it.take (k + 1)).filter (inB l)) r; rw [fil_snoc hk1, if_pos (by unfold inB; simpa using h37), totQ_snoc]; exact hfin r⟩, by show p.it.length - (k + 1) < p.it.length - k; omega, lep_of hF [1, 40, 2] rfl (rfl) ⟨rfl, rfl, rfl, rfl, rfl, rfl, trivial⟩⟩
        · refine Pstep.go (st_extract rfl rfl rfl) ?_
          refine o_nil ?_
          refine a_seq ?_
          refine a_true rfl rfl ?_
          refine a_skip ?_
          refine a_block ?_
          refine a_seq ?_
          refine a_region ?_
          refine Pstep.go (st_entry (E) j41 b41 rfl rfl rfl hm41 hb41 rfl) ?_
          refine Pstep.go (st_extract rfl rfl rfl) ?_
          refine Pstep.go (st_extract rfl rfl rfl) ?_
          refine Estep.go (st_alloc 5 zl43 rfl rfl rfl rfl) ?_
          refine Estep.go (st_storeP rfl rfl rfl rfl rfl rfl rfl sz43) ?_
          refine Pstep.go (st_assign rfl rfl) ?_
          refine o_nil ?_
          refine a_drawn [[], [], [0, 1], [], [0, 1, 2, 3], [0, 1, 3], [0, 1, 3, 5], [0, 1, 2, 3, 4, 5, 6]] mixed rfl ?_
          refine dws2 2 ([mapC rscD intD (mtouch N k41 0)]) rfl ?_
          refine d_pure [8] [] rfl rfl (fun _ => gp_none (st_move rfl rfl)) ?_
          refine d_pureA [11] rfl rfl (fun _ => gp_none (st_loadPS rfl rfl rw43 rfl rfl rfl)) ?_
          refine d_pure2 [46, 47] [] rfl rfl rfl (fun _ => gp_none (st_look (N) (k41) (0) _ rfl rfl rfl mt115 kt43 za2 rfl rfl)) (fun _ => gp_none (st_look (mtouch (N) (k41) (0)) (k41) (0) _ rfl rfl rfl mt115 kt43 za2 (mget_touch _ _ _ _) rfl)) ?_
          refine d_pure [12] [] rfl rfl (fun _ => gp_none (st_move rfl rfl)) ?_
          have hNb : -6000000000000000000 ≤ mget N k41 0 + v41 ∧ mget N k41 0 + v41 ≤ 6000000000000000000 := by { have h1 := hI k41; have h2 := ctrSum_bound (l := lft E (List.range E.length) seen) (fun x hx => hEb x (lft_sub hx)) k41; have h3 := ctrSum_bound hEb k41; have h4 := lft_len (m := E) (B := List.range E.length) (seen := seen); have h5 := hT k41; have h6 := hEb (k41, v41) (List.mem_of_getElem? hm41); simp only at h6; omega }
          refine d_pure [48, 49] [] rfl rfl (fun _ => gp_none (st_add rfl rfl (IntWalk.i64_in _ (by omega)) rfl)) ?_
          refine d_eff [46, 47] [2] [(51, _)] rfl rfl (fun _ => ge_none (st_mapE (N) (k41) (0) rfl rfl rfl mt115 kt43 za2 rfl rfl)) (.inr ⟨51, _, rfl, rfl, rfl, rfl, rfl⟩) rfl rfl rfl rfl rfl ?_ (hCn := c2_wr rfl)
          refine d_pure [51] [] rfl rfl (fun _ => gp_none (st_extract rfl rfl rfl)) ?_
          refine dwc 7 rfl rfl rfl ?_
          refine dw1 8 rfl rfl ?_
          refine Estep.go (st_entS (N) (k41) (0) (mget N k41 0 + v41) rfl rfl rfl kt43 rfl rfl) ?_
          refine o_nil ⟨rfl, ?_⟩
          refine dwe ?_
          exact ⟨(seen ++ [b41], _), (fun r => by show mget (mput N k41 (mget N k41 0 + v41)) r 0 + ctrSum (lft E (List.range E.length) (seen ++ [b41])) r = _; have h1 := hI r; rw [ctrSum_perm hp41, ctrSum_cons] at h1; rw [mget_put]; by_cases e : r = k41; · { rw [if_pos e]; rw [if_pos e.symm] at h1; rw [e] at h1 ⊢; omega }; · { rw [if_neg e]; rw [if_neg (fun h => e h.symm)] at h1; omega }), by show (lft E (List.range E.length) (seen ++ [b41])).length < (lft E (List.range E.length) seen).length; rw [hp41.length_eq]; exact Nat.lt_succ_self _, lep_of hF [4, 41, 1, 40, 2] rfl (rfl) ⟨rfl, rfl, rfl, rfl, rfl, rfl, rfl, trivial⟩⟩
    · refine a_exit ?_
      refine a_seq ?_
      have hfull : p.it.take k = p.it := List.take_of_length_le (by have h := h30; omega)
      rw [hfull] at hM
      have hTb := totQ_bound (l := p.it.filter (inB l)) (fun i hi => hck i (List.mem_filter.1 hi).1) (Nat.le_trans (List.length_filter_le _ _) h1000)
      refine a_region ?_
      refine Pstep.go (st_assign rfl rfl) ?_
      refine o_nil ?_
      refine a_seq ?_
      refine a_seq ?_
      refine a_adopt 13 900 sl69 rfl rfl rfl rfl ?_
      refine a_region ?_
      refine Pstep.go (st_fieldP rfl fi72_0 rfl rfl rfl) ?_
      refine Pstep.go (st_loadP rfl rfl rfl on69 rfl) ?_
      refine Pstep.go (st_lenMap rfl Try.underlying69 rfl) ?_
      refine Pstep.go (st_move rfl rfl) ?_
      refine o_nil ?_
      refine a_block ?_
      refine a_loopP (α := List Roo) (fun acc => ⟨76, [(8, (.map 2 0)), (13, (.own 900 0 acc.length)), (55, (.d (.sl none (p.ro.map rooD)))), (56, (.d (intD (p.ro.length : Int)))), (57, (.d (intD (acc.length : Int))))], [(900, [.rowD 124 7 (acc.map rooD)]), (2, [mapC rscD intD M])]⟩) (fun acc => acc.length ≤ p.ro.length ∧ acc = (totR p l).take acc.length) (fun acc => p.ro.length - acc.length) ([]) (⟨Nat.zero_le _, by simp⟩) (lep_of hF [900, 2] rfl rfl ⟨rfl, rfl, rfl, rfl, rfl, trivial⟩) ?_
      rintro acc ⟨ha0, hA⟩
      refine a_seq ?_
      refine a_region ?_
      refine Pstep.go (st_lss rfl rfl rfl) ?_
      refine o_nil ?_
      refine a_seq ?_
      refine a_if rfl (fun h58 => ?_) (fun h58 => ?_)
      · have ha1 : acc.length < p.ro.length := lt_cast h58
        refine a_skip ?_
        refine a_seq ?_
        refine a_block ?_
        refine a_seq ?_
        refine a_region ?_
        refine Pstep.go (st_indexD (acc.length) rfl rfl (rfl) (getm ha1) Try.underlying69 rfl sz124 rfl) ?_
        refine Pstep.go (st_loadDS rfl rfl rw124 rfl) ?_
        refine Estep.go (st_alloc 6 zl124 rfl rfl rfl rfl) ?_
        refine Estep.go (st_storeP rfl rfl rfl rfl rfl rfl rfl sz124) ?_
        refine o_nil ?_
        refine a_drawn [[], [], [1], [], [3], [], [], [6], [5, 6, 7], [3, 4, 5, 6, 7, 8], [1, 2, 3, 4, 5, 6, 7, 8, 9], [1, 2, 3, 4, 5, 6, 7, 8, 9, 10], [0, 1, 2, 3, 4, 5, 6, 7, 8, 9, 10, 11], [0, 1, 2, 3, 4, 5, 6, 7, 8, 9, 10, 11, 12]] mixed rfl ?_
        refine dws ?_
        refine d_pure [13] [] rfl rfl (fun _ => gp_none (st_move rfl rfl)) ?_
        refine d_pure [15] [] rfl rfl (fun _ => gp_none (st_fieldP rfl fi124_0 rfl rfl rfl)) ?_
        refine d_pureA [62] rfl rfl (fun _ => gp_none (st_loadPS rfl rfl rw43 rfl rfl rfl)) ?_
        refine d_pure [15] [] rfl rfl (fun _ => gp_none (st_fieldP rfl fi124_1 rfl rfl rfl)) ?_
        refine d_pureA [64] rfl rfl (fun _ => gp_none (st_loadP rfl rfl rfl on2 rfl)) ?_
        refine d_pure [8] [] rfl rfl (fun _ => gp_none (st_move rfl rfl)) ?_
        refine d_pure [15] [] rfl rfl (fun _ => gp_none (st_fieldP rfl fi124_0 rfl rfl rfl)) ?_
        refine d_pureA [67] rfl rfl (fun _ => gp_none (st_loadPS rfl rfl rw43 rfl rfl rfl)) ?_
        refine d_pureA [66, 68] rfl rfl (fun _ => gp_none (st_look (M) (p.ro[acc.length].r) (0) _ rfl rfl rfl mt115 kt43 za2 rfl rfl)) ?_
        have hr1 := hram _ (List.getElem_mem ha1)
        have hr2 := hTb p.ro[acc.length].r
        have hr3 := hM p.ro[acc.length].r
        refine d_pure [65, 69] [] rfl rfl (fun _ => gp_none (st_add rfl rfl (IntWalk.i64_in _ (by omega)) rfl)) ?_
        refine d_pure [63, 70] [] rfl rfl (fun _ => gp_none (st_build zl124 pl124 rfl rfl rfl)) ?_
        refine d_eff [71] [50] [(72, _)] rfl rfl (fun _ => ge_none (st_buildSlice 50 sl69 rfl rfl rfl rfl rfl rfl rfl rfl)) (.inr ⟨72, _, rfl, rfl, rfl, rfl, rfl⟩) rfl rfl rfl rfl rfl ?_
        refine dwc 12 rfl rfl rfl ?_
        refine dw1 13 rfl rfl ?_
        refine Estep.go (st_appM (acc) ([⟨p.ro[acc.length].r, p.ro[acc.length].n + mget M p.ro[acc.length].r 0⟩]) rfl rfl rfl rfl rfl rfl rfl rfl sl69 (by simp only [List.length_singleton]; omega) rfl rfl rfl rfl) ?_
        refine o_nil ⟨rfl, ?_⟩
        refine dw1 14 rfl rfl ?_
        refine Pstep.go (st_assign rfl rfl) ?_
        refine o_nil ⟨rfl, ?_⟩
        refine dwe ?_
        refine a_region ?_
        refine Pstep.go (st_add rfl rfl (wrapA acc (⟨p.ro[acc.length].r, p.ro[acc.length].n + mget M p.ro[acc.length].r 0⟩ : Roo) (by omega)) rfl) ?_
        refine Pstep.go (st_move rfl rfl) ?_
        refine o_nil ?_
        exact ⟨acc ++ [⟨p.ro[acc.length].r, p.ro[acc.length].n + mget M p.ro[acc.length].r 0⟩], ⟨by rw [List.length_append]; show acc.length + 1 ≤ _; omega, by rw [List.length_append]; show _ = (totR p l).take (acc.length + 1); rw [List.take_succ_eq_append_getElem (by unfold totR; simpa using ha1), ← hA]; congr 1; unfold totR; simp [hM]⟩, by rw [List.length_append]; show p.ro.length - (acc.length + 1) < p.ro.length - acc.length; omega, lep_of hF [900, 2] rfl (rfl) ⟨rfl, rfl, rfl, rfl, rfl, trivial⟩⟩
      · refine a_exit ?_
        refine a_seq ?_
        have hfa : acc = totR p l := by rw [hA]; exact List.take_of_length_le (by unfold totR; rw [List.length_map]; have h := h58; omega)
        refine a_freezeM (emb := rooD) 13 900 acc rfl rfl rfl rfl rfl rfl rfl ?_
        refine a_region ?_
        refine Pstep.go (st_move rfl rfl) ?_
        refine Pstep.go (st_assign rfl rfl) ?_
        refine Pstep.go (st_assign rfl rfl) ?_
        refine o_nil ?_
        refine a_ret ?_
        exact ⟨_, [], [], res_of rfl, rfl, rfl, by rw [hfa], rfl⟩
  · have hc := chosen_bad p l hb hl hE
    rw [if_neg hE]
    refine a_enter Try.func41 rfl rfl Try.ntmps41 rfl rfl rfl fun F hF => ?_
    refine a_seq ?_
    refine a_region ?_
    refine Estep.go (st_box 1 rfl rfl rfl rfl rfl rfl rfl) ?_
    refine Pstep.go (st_assign rfl rfl) ?_
    refine o_anyNil 4 rfl ?_
    refine Pstep.go (st_assign rfl rfl) ?_
    refine o_nil ?_
    refine a_seq ?_
    refine a_region ?_
    refine Pstep.go (st_loadPS rfl rfl rw72 rfl rfl rfl) ?_
    refine Pstep.go (st_move rfl rfl) ?_
    refine Pstep.go (st_callP (hc) rfl rfl) ?_
    refine Pstep.go (st_move rfl rfl) ?_
    refine Pstep.go (st_extractD rfl rfl rfl) ?_
    refine Pstep.go (st_extractD rfl rfl rfl) ?_
    refine Pstep.go (st_assign rfl rfl) ?_
    refine Pstep.go (st_assign rfl rfl) ?_
    refine o_nil ?_
    refine a_seq ?_
    refine a_seq ?_
    refine a_region ?_
    refine Pstep.go (st_move rfl rfl) ?_
    refine Pstep.go (st_neq rfl rfl rfl) ?_
    refine o_nil ?_
    refine a_true rfl ((decide_eq_true hE)) ?_
    refine a_seq ?_
    refine a_region ?_
    refine Pstep.go (st_move rfl rfl) ?_
    refine Pstep.go (st_assign rfl rfl) ?_
    refine o_anyNil 4 rfl ?_
    refine Pstep.go (st_assign rfl rfl) ?_
    refine o_nil ?_
    refine a_ret ?_
    exact ⟨_, [], [], res_of rfl, rfl, rfl, rfl, rfl⟩
end Go.Proofs.Ytfmpiabmnjmobaa
