/- Proved here: feasibleAdmissible_holds, the given statement Rows.FeasibleAdmissibleSaid: the law girolaw29.FeasibleAdmissible returns true and does not panic, at every input that the statement speaks of; no condition beyond the statement. -/
/- Layer 29: a problem with few items in its small form. -/
import Derived.Test.YtnamabifclidmaaGreatMg22
namespace Go.Proofs.YtnamabifclidmaaGreat
open Go.RowKit

def smI (p : Prb) : List Int := sortI (ordI_ids p)
theorem ordI_perm {p : Prb} (hp : prbE p = 0) : (ordI_ids p).Perm (p.it.map Itm.id) := by
  unfold ordI_ids ordP; rw [if_pos hp]; exact (sortO_perm p.it).map _
theorem smI_perm {p : Prb} (hp : prbE p = 0) : (smI p).Perm (p.it.map Itm.id) := (sortI_perm _).trans (ordI_perm hp)
theorem smI_mem {p : Prb} (hp : prbE p = 0) (x : Int) : x ∈ smI p ↔ x ∈ p.it.map Itm.id := (smI_perm hp).mem_iff
theorem smI_len {p : Prb} (hp : prbE p = 0) : (smI p).length = p.it.length := by rw [(smI_perm hp).length_eq, List.length_map]
theorem smI_lt {p : Prb} (hp : prbE p = 0) : (smI p).Pairwise (· < ·) := by
  have hn : (smI p).Nodup := (smI_perm hp).nodup_iff.2 (items_ids (prb_ok hp).2.1)
  have hs : (smI p).Pairwise (· ≤ ·) := sortI_sorted _
  rw [List.Nodup] at hn
  exact (hs.and hn).imp fun {a b} h => by have h1 := h.1; have h2 := h.2; omega
theorem req_in {p : Prb} (hp : prbE p = 0) {i : Int} (hi : i ∈ p.it.map Itm.id) {b : Bkd} (hb : b ∈ req p i) : b.m ∈ smI p := by
  rw [smI_mem hp]
  unfold req at hb
  rcases List.mem_append.1 hb with h | h
  · unfold reqA at h
    obtain ⟨x, hx, rfl⟩ := List.mem_map.1 h
    have hx' := (sortI_perm _).mem_iff.1 hx
    obtain ⟨hk, _, he, _⟩ := itmOf_at hi
    rw [he] at hx'
    have hf := fst0_all (prb_ok hp).2.2 _ (List.mem_map.2 ⟨_, List.getElem_mem hk, rfl⟩)
    unfold fErr at hf
    split at hf
    · cases hf
    · rename_i hn
      show x ∈ _
      have hn2 : ¬ notIn (p.it.map Itm.id) x = true := fun h => hn (List.any_eq_true.2 ⟨x, hx', h⟩)
      simpa [notIn] using hn2
  · obtain ⟨y, hy, h⟩ := List.mem_flatMap.1 h
    unfold reqL at h
    obtain ⟨z, hz, rfl⟩ := List.mem_map.1 h
    have hz' : z ∈ y.q := List.mem_of_mem_take hz
    unfold linL at hy
    obtain ⟨r, _, rfl⟩ := List.mem_map.1 hy
    have hz2 : z ∈ qIds (ordP p) r.r := hz'
    unfold qIds at hz2
    obtain ⟨o, ho, rfl⟩ := List.mem_map.1 hz2
    exact (ordI_perm hp).mem_iff.1 (List.mem_map.2 ⟨o, (List.mem_filter.1 ho).1, rfl⟩)
def bitsO (ids : List Int) (l : List Bkd) : Nat := l.foldl (fun a b => a ||| 1 <<< ids.idxOf b.m) 0
theorem bits_snoc (ids : List Int) {l : List Bkd} {k : Nat} (hk : k < l.length) : bitsO ids (l.take (k + 1)) = bitsO ids (l.take k) ||| 1 <<< ids.idxOf l[k].m := by
  unfold bitsO; rw [List.take_succ_eq_append_getElem hk, List.foldl_append]; rfl
theorem bits_lt {ids : List Int} (hn : ids.length ≤ 31) (l : List Bkd) : bitsO ids l < 4294967296 := by
  have key : ∀ (l : List Bkd) (a : Nat), a < 4294967296 → l.foldl (fun a b => a ||| 1 <<< ids.idxOf b.m) a < 4294967296 := by
    intro l
    induction l with
    | nil => intro a h; exact h
    | cons b l ih =>
      intro a h
      rw [List.foldl_cons]
      exact ih _ (or_lt h (shl_lt (by have : ids.idxOf b.m ≤ ids.length := List.idxOf_le_length; omega)))
  exact key l 0 (by omega)
def blOf (p : Prb) (i : Int) : Nat := bitsO (smI p) (req p i)
def dlOf (p : Prb) (x : Lin) (i : Int) : Int := dltE (itmOf p i) x.r
def rwOf (p : Prb) (x : Lin) : List Int := (smI p).map (dlOf p x)
def smlOf (p : Prb) : Sma := ⟨smI p, (smI p).map (blOf p), (linL p).map (rwOf p), (linL p).map Lin.n⟩
theorem blkF_nil (l : List Bkd) : blkF (inM []) l = l := List.filter_eq_self.2 fun b _ => rfl
abbrev lineC (x : Lin) : List AV := [.d (intD x.r.k), .d (strD x.r.acc.o), .d (intD x.r.acc.k), .d (strD x.r.acc.a), .d (strD x.r.f), .d (strD x.r.t), .d (intD x.n), .d (.sl none (x.q.map intD))]
set_option maxRecDepth 100000 in
theorem reduce_c (p : Prb) (hp : prbE p = 0) (hb : PrbB p) (h1 : p.it.length ≤ 20) (h2 : p.ro.length ≤ 1000) : ACalls Tryz.prog 84 [.ptr 10 0 0] (HA p) fun r H' => r = .d (.ptr (smaD (smlOf p))) ∧ H' = HA p := by
  have hLl := linL_len p
  have hIl := smI_len hp
  have hOl : (ordI_ids p).length = p.it.length := by rw [(ordI_perm hp).length_eq, List.length_map]
  have hbk : ∀ mv i, ACalls Tryz.prog 74 [.ptr 10 0 0, mapV mv, .d (intD i)] (HA p ++ [(21, [.map (some ([], 0)) []]), (31, [.addr 21 0 (.map (some mv))])]) fun r H' => r = .d (.sl none ((req p i).map bkdD)) ∧ H' = HA p ++ [(21, [.map (some ([], 0)) []]), (31, [.addr 21 0 (.map (some mv))])] := fun mv i => by
    have h := (blockers_c p mv (some ([], 0)) [] i hb (by omega) h2).by [(12, 21), (13, 31)] rfl
    rw [blkF_nil] at h
    exact h
  have hso := sortedZ_p (ordI_ids p) (by omega)
  rw [show sortI (ordI_ids p) = smI p from rfl] at hso
  refine a_enter Tryz.func84 rfl rfl Tryz.ntmps84 rfl rfl rfl fun F hF => ?_
  refine a_seq ?_
  refine a_region ?_
  refine Pstep.go (st_assign rfl rfl) ?_
  refine o_nil ?_
  refine a_seq ?_
  refine a_region ?_
  refine Pstep.go (st_move rfl rfl) ?_
  refine Pstep.go (st_nilCheckP rfl rfl) ?_
  refine Pstep.go (st_fieldP rfl fi154_1 rfl rfl rfl) ?_
  refine Pstep.go (st_loadP rfl rfl rfl on26 rfl) ?_
  refine Estep.go (st_callD (valuesZ_c (ordI_ids p)) rfl [] trivial rfl rfl rfl rfl rfl rfl rfl rfl rfl) ?_
  refine Pstep.go (st_callP (hso) rfl rfl) ?_
  refine Pstep.go (st_build zl170 pl170 rfl rfl rfl) ?_
  refine Estep.go (st_box 20 rfl rfl rfl rfl rfl rfl rfl) ?_
  refine Pstep.go (st_assign rfl rfl) ?_
  refine o_nil ?_
  refine a_seq ?_
  refine a_seq ?_
  refine a_adoptC 20 0 1 901 sl166 rfl rfl rfl rfl rfl rfl rfl ?_
  refine a_adoptC 20 0 2 902 sl167 rfl rfl rfl rfl rfl rfl rfl ?_
  refine a_adoptC 20 0 3 903 sl168 rfl rfl rfl rfl rfl rfl rfl ?_
  refine a_region ?_
  refine Pstep.go (st_move rfl rfl) ?_
  refine Pstep.go (st_nilCheckP rfl rfl) ?_
  refine Pstep.go (st_fieldP rfl fi170_0 rfl rfl rfl) ?_
  refine Pstep.go (st_loadP rfl rfl rfl on26 rfl) ?_
  refine Pstep.go (st_lenMap rfl Tryz.underlying26 rfl) ?_
  refine Pstep.go (st_move rfl rfl) ?_
  refine o_nil ?_
  refine a_block ?_
  refine a_loopP (α := Nat × List Nat) (fun q => ⟨122, [(0, .ptr 10 0 0), (3, (.ptr 20 0 0)), (27, (.d (.sl none ((smI p).map intD)))), (28, (.d (intD ((smI p).length : Int)))), (29, (.d (intD (q.1 : Int))))], HA p ++ [(20, [.blk 170 [.d (.sl none ((smI p).map intD)), .own 901 0 q.2.length, .own 902 0 0, .own 903 0 0]]), (901, [.rowD 65 1 (q.2.map u32D)]), (902, [.rowD 168 1 []]), (903, [.rowD 2 1 []])]⟩) (fun q => q.1 ≤ (smI p).length ∧ q.2 = ((smI p).take q.1).map (blOf p)) (fun q => (smI p).length - q.1) ((0, [])) (⟨Nat.zero_le _, rfl⟩) (lep_of hF [10, 11, 20, 901, 902, 903] rfl rfl ⟨rfl, rfl, rfl, rfl, rfl, trivial⟩) ?_
  rintro ⟨k, BL⟩ ⟨hk0, hA⟩
  dsimp only at hk0 hA ⊢
  refine a_seq ?_
  refine a_region ?_
  refine Pstep.go (st_lss rfl rfl rfl) ?_
  refine o_nil ?_
  refine a_seq ?_
  refine a_if rfl (fun h30 => ?_) (fun h30 => ?_)
  · have hk1 : k < (smI p).length := lt_cast h30
    refine a_skip ?_
    refine a_seq ?_
    refine a_block ?_
    refine a_seq ?_
    refine a_region ?_
    refine Pstep.go (st_indexD (k) rfl rfl (rfl) (getm hk1) Tryz.underlying26 rfl sz3 rfl) ?_
    refine Pstep.go (st_loadD1 rfl rfl on3 rfl) ?_
    refine Pstep.go (st_assign rfl rfl) ?_
    refine o_nil ?_
    refine a_seq ?_
    refine a_region ?_
    refine Pstep.go (st_assign rfl rfl) ?_
    refine o_nil ?_
    refine a_seq ?_
    refine a_seq ?_
    refine a_region ?_
    refine Pstep.go (st_move rfl rfl) ?_
    refine Estep.go (st_makeMap 21 rfl rfl rfl rfl) ?_
    refine o_ghostM 31 21 0 rfl rfl rfl rfl rfl fun mv => ?_
    refine o_toRaw 34 31 0 (.inl rfl) rfl ?_
    refine Pstep.go (st_move rfl rfl) ?_
    refine Estep.go (st_callD (hbk mv (smI p)[k]) rfl [10, 11, 21, 31] ⟨rfl, rfl, rfl, rfl, trivial⟩ rfl rfl rfl rfl rfl rfl rfl rfl rfl) ?_
    refine Pstep.go (st_lenMap rfl Tryz.underlying39 rfl) ?_
    refine Pstep.go (st_move rfl rfl) ?_
    refine o_nil ?_
    refine a_block ?_
    refine a_loopP (α := Nat × Nat) (fun q => ⟨122, [(0, .ptr 10 0 0), (3, (.ptr 20 0 0)), (6, (.d (u32D q.2))), (27, (.d (.sl none ((smI p).map intD)))), (28, (.d (intD ((smI p).length : Int)))), (29, (.d (intD (k : Int)))), (36, (.d (.sl none ((req p (smI p)[k]).map bkdD)))), (37, (.d (intD ((req p (smI p)[k]).length : Int)))), (38, (.d (intD (q.1 : Int))))], HA p ++ [(20, [.blk 170 [.d (.sl none ((smI p).map intD)), .own 901 0 BL.length, .own 902 0 0, .own 903 0 0]]), (901, [.rowD 65 1 (BL.map u32D)]), (902, [.rowD 168 1 []]), (903, [.rowD 2 1 []])]⟩) (fun q => q.1 ≤ (req p (smI p)[k]).length ∧ q.2 = bitsO (smI p) ((req p (smI p)[k]).take q.1)) (fun q => (req p (smI p)[k]).length - q.1) ((0, 0)) (⟨Nat.zero_le _, rfl⟩) (lep_of hF [10, 11, 20, 901, 902, 903] rfl rfl ⟨rfl, rfl, rfl, rfl, rfl, rfl, rfl, rfl, rfl, trivial⟩) ?_
    rintro ⟨m, bits⟩ ⟨hm0, hB⟩
    dsimp only at hm0 hB ⊢
    refine a_seq ?_
    have hrl := req_len hb (by omega : p.it.length ≤ 1000) h2 (smI p)[k]
    have hri : ∀ b ∈ req p (smI p)[k], b.m ∈ smI p := fun b hb => req_in hp ((smI_mem hp _).1 (List.getElem_mem hk1)) hb
    have hblo : blOf p (smI p)[k] = bitsO (smI p) (req p (smI p)[k]) := rfl
    refine a_region ?_
    refine Pstep.go (st_lss rfl rfl rfl) ?_
    refine o_nil ?_
    refine a_seq ?_
    refine a_if rfl (fun h39 => ?_) (fun h39 => ?_)
    · have hm1 : m < (req p (smI p)[k]).length := lt_cast h39
      refine a_skip ?_
      refine a_seq ?_
      refine a_block ?_
      refine a_seq ?_
      refine a_region ?_
      refine Pstep.go (st_indexD (m) rfl rfl (rfl) (getm hm1) Tryz.underlying39 rfl sz49 rfl) ?_
      refine Pstep.go (st_loadDS rfl rfl rw49 rfl) ?_
      refine Estep.go (st_alloc 22 zl49 rfl rfl rfl rfl) ?_
      refine Estep.go (st_storeP rfl rfl rfl rfl rfl rfl rfl sz49) ?_
      refine o_nil ?_
      refine a_seq ?_
      refine a_drawn [[], [0], [0, 1], [0, 1, 2], [], [4], [0, 1, 2, 3, 4, 5], [0, 1, 2, 3, 4, 5, 6], [0, 1, 2, 3, 4, 5, 6, 7], [0, 1, 2, 3, 4, 5, 6, 7], [0, 1, 2, 3, 4, 5, 6, 7, 8], [0, 1, 2, 3, 4, 5, 6, 7, 8, 9, 10]] mixed rfl ?_
      refine dws ?_
      refine d_pure [3] [] rfl rfl (fun _ => gp_none (st_move rfl rfl)) ?_
      refine d_pure [43] [] rfl rfl (fun _ => gp_none (st_nilCheckP rfl rfl)) ?_
      refine d_pure [44] [] rfl rfl (fun _ => gp_none (st_fieldP rfl fi170_0 rfl rfl rfl)) ?_
      refine d_pure [45] [20] rfl rfl (fun _ => gp_none (st_loadP rfl rfl rfl on26 rfl)) ?_
      refine d_pure [8] [] rfl rfl (fun _ => gp_none (st_fieldP rfl fi49_1 rfl rfl rfl)) ?_
      refine d_pure [47] [22] rfl rfl (fun _ => gp_none (st_loadP rfl rfl rfl on3 rfl)) ?_
      refine dwc 6 rfl rfl rfl ?_
      refine dw1 7 rfl rfl ?_
      refine Pstep.go (st_callP (bsearch_p (smI p) (req p (smI p)[k])[m].m (smI_lt hp) (hri _ (List.getElem_mem hm1)) (by omega)) rfl rfl) ?_
      refine o_nil ⟨rfl, ?_⟩
      refine dw1 8 rfl rfl ?_
      refine Pstep.go (st_move rfl rfl) ?_
      refine o_nil ⟨rfl, ?_⟩
      refine dws ?_
      refine d_pure [42] [] rfl rfl (fun _ => gp_none (st_extractD rfl rfl rfl)) ?_
      refine d_pure [42] [] rfl rfl (fun _ => gp_none (st_extractD rfl rfl rfl)) ?_
      refine d_pure [50] [] rfl rfl (fun _ => gp_none (st_assign rfl rfl)) ?_
      refine dwc 11 rfl rfl rfl ?_
      refine dw1 12 rfl rfl ?_
      refine Pstep.go (st_assign rfl rfl) ?_
      refine o_nil ⟨rfl, ?_⟩
      refine dwe ?_
      refine a_region ?_
      refine Pstep.go (st_move rfl rfl) ?_
      refine Pstep.go (st_move rfl rfl) ?_
      have hix := List.idxOf_lt_length_of_mem (hri _ (List.getElem_mem hm1))
      refine Pstep.go (st_shl rfl rfl (by omega) (shl1U (by omega)) rfl) ?_
      refine Pstep.go (st_bits rfl rfl rfl (orU (by rw [hB]; exact bits_lt (by omega) _) (shl_lt (by omega))) rfl) ?_
      refine Pstep.go (st_assign rfl rfl) ?_
      refine o_nil ?_
      refine a_region ?_
      refine Pstep.go (st_add rfl rfl (wrapS (m + 1) (by omega)) rfl) ?_
      refine Pstep.go (st_move rfl rfl) ?_
      refine o_nil ?_
      exact ⟨(m + 1, bits ||| 1 <<< (smI p).idxOf (req p (smI p)[k])[m].m), ⟨by show m + 1 ≤ _; omega, by show bits ||| 1 <<< (smI p).idxOf (req p (smI p)[k])[m].m = bitsO (smI p) ((req p (smI p)[k]).take (m + 1)); rw [bits_snoc (smI p) hm1, hB]⟩, by show (req p (smI p)[k]).length - (m + 1) < (req p (smI p)[k]).length - m; omega, lep_of hF [10, 11, 20, 901, 902, 903] rfl (rfl) ⟨rfl, rfl, rfl, rfl, rfl, rfl, rfl, rfl, rfl, trivial⟩⟩
    · have hfin : bits = blOf p (smI p)[k] := by rw [hblo, hB, List.take_of_length_le (by have h := h39; omega)]
      refine a_exit ?_
      refine a_region ?_
      refine Pstep.go (st_move rfl rfl) ?_
      refine Pstep.go (st_move rfl rfl) ?_
      refine Pstep.go (st_nilCheckP rfl rfl) ?_
      refine Pstep.go (st_fieldP rfl fi170_1 rfl rfl rfl) ?_
      have hBl : BL.length ≤ 20 := by rw [hA, List.length_map, List.length_take]; omega
      refine Pstep.go (st_loadP rfl rfl rfl on166 rfl) ?_
      refine Pstep.go (st_move rfl rfl) ?_
      refine Estep.go (st_buildSlice 40 sl166 rfl rfl rfl rfl rfl rfl rfl rfl) ?_
      refine Estep.go (st_appM (BL) ([bits]) rfl rfl rfl rfl rfl rfl rfl rfl sl166 (by simp only [List.length_singleton]; omega) rfl rfl rfl rfl) ?_
      refine Pstep.go (st_nilCheckP rfl rfl) ?_
      refine Pstep.go (st_fieldP rfl fi170_1 rfl rfl rfl) ?_
      refine Estep.go (st_storeP rfl rfl rfl rfl rfl rfl rfl sz166) ?_
      refine o_nil ?_
      refine a_region ?_
      refine Pstep.go (st_add rfl rfl (wrapS (k + 1) (by omega)) rfl) ?_
      refine Pstep.go (st_move rfl rfl) ?_
      refine o_nil ?_
      exact ⟨(k + 1, BL ++ [bits]), ⟨by show k + 1 ≤ _; omega, by show BL ++ [bits] = ((smI p).take (k + 1)).map (blOf p); rw [tk_map hk1, hA, hfin]⟩, by show (smI p).length - (k + 1) < (smI p).length - k; omega, lep_of hF [10, 11, 20, 901, 902, 903] rfl (rfl) ⟨rfl, rfl, rfl, rfl, rfl, trivial⟩⟩
  · refine a_exit ?_
    refine a_seq ?_
    refine a_seq ?_
    have hBL : BL = (smI p).map (blOf p) := by rw [hA, List.take_of_length_le (by have h := h30; omega)]
    refine a_freezeC (ys := BL.map u32D) 20 0 1 901 rfl rfl rfl (Nat.le_of_eq (by simp)) (List.take_of_length_le (by simp)) rfl rfl rfl rfl rfl rfl ?_
    refine a_region ?_
    refine Pstep.go (st_move rfl rfl) ?_
    refine Pstep.go (st_nilCheckP rfl rfl) ?_
    refine Pstep.go (st_fieldP rfl fi154_2 rfl rfl rfl) ?_
    refine Pstep.go (st_loadP rfl rfl rfl on152 rfl) ?_
    refine Pstep.go (st_lenMap rfl Tryz.underlying152 rfl) ?_
    refine Pstep.go (st_move rfl rfl) ?_
    refine o_nil ?_
    refine a_block ?_
    refine a_loopP (α := Nat × List (List Int) × List Int) (fun q => ⟨122, [(0, .ptr 10 0 0), (3, (.ptr 20 0 0)), (71, (.d (.sl none ((linL p).map linD)))), (72, (.d (intD ((linL p).length : Int)))), (73, (.d (intD (q.1 : Int))))], HA p ++ [(20, [.blk 170 [.d (.sl none ((smI p).map intD)), .d (.sl none (BL.map u32D)), .own 902 0 q.2.1.length, .own 903 0 q.2.2.length]]), (902, [.rowD 168 1 (q.2.1.map rowZ)]), (903, [.rowD 2 1 (q.2.2.map intD)])]⟩) (fun q => q.1 ≤ (linL p).length ∧ q.2.1 = ((linL p).take q.1).map (rwOf p) ∧ q.2.2 = ((linL p).take q.1).map Lin.n) (fun q => (linL p).length - q.1) ((0, [], [])) (⟨Nat.zero_le _, rfl, rfl⟩) (lep_of hF [10, 11, 20, 902, 903] rfl rfl ⟨rfl, rfl, rfl, rfl, rfl, trivial⟩) ?_
    rintro ⟨n, DL, RL⟩ ⟨hn0, hD, hR⟩
    dsimp only at hn0 hD hR ⊢
    refine a_seq ?_
    refine a_region ?_
    refine Pstep.go (st_lss rfl rfl rfl) ?_
    refine o_nil ?_
    refine a_seq ?_
    refine a_if rfl (fun h74 => ?_) (fun h74 => ?_)
    · have hn1 : n < (linL p).length := lt_cast h74
      refine a_skip ?_
      refine a_seq ?_
      refine a_block ?_
      refine a_seq ?_
      refine a_region ?_
      refine Pstep.go (st_indexD (n) rfl rfl (rfl) (getm hn1) Tryz.underlying152 rfl sz157 rfl) ?_
      refine Pstep.go (st_loadDS rfl rfl rw157 rfl) ?_
      refine Estep.go (st_alloc 24 zl157 rfl rfl rfl rfl) ?_
      refine Estep.go (st_storeP rfl rfl rfl rfl rfl rfl rfl sz157) ?_
      refine o_nil ?_
      refine a_seq ?_
      refine a_region ?_
      refine Pstep.go (st_assign rfl rfl) ?_
      refine o_nil ?_
      refine a_seq ?_
      refine a_seq ?_
      refine a_adopt 13 905 sl168 rfl rfl rfl rfl ?_
      refine a_region ?_
      refine Pstep.go (st_move rfl rfl) ?_
      refine Pstep.go (st_nilCheckP rfl rfl) ?_
      refine Pstep.go (st_fieldP rfl fi170_0 rfl rfl rfl) ?_
      refine Pstep.go (st_loadP rfl rfl rfl on26 rfl) ?_
      refine Pstep.go (st_lenMap rfl Tryz.underlying26 rfl) ?_
      refine Pstep.go (st_move rfl rfl) ?_
      refine o_nil ?_
      refine a_block ?_
      refine a_loopP (α := Nat × List Int) (fun q => ⟨122, [(0, .ptr 10 0 0), (3, (.ptr 20 0 0)), (12, (.ptr 24 0 0)), (13, (.own 905 0 q.2.length)), (71, (.d (.sl none ((linL p).map linD)))), (72, (.d (intD ((linL p).length : Int)))), (73, (.d (intD (n : Int)))), (80, (.d (.sl none ((smI p).map intD)))), (81, (.d (intD ((smI p).length : Int)))), (82, (.d (intD (q.1 : Int))))], HA p ++ [(20, [.blk 170 [.d (.sl none ((smI p).map intD)), .d (.sl none (BL.map u32D)), .own 902 0 DL.length, .own 903 0 RL.length]]), (902, [.rowD 168 1 (DL.map rowZ)]), (903, [.rowD 2 1 (RL.map intD)]), (905, [.rowD 2 1 (q.2.map intD)]), (24, [.blk 157 (lineC (linL p)[n])])]⟩) (fun q => q.1 ≤ (smI p).length ∧ q.2 = ((smI p).take q.1).map (dlOf p (linL p)[n])) (fun q => (smI p).length - q.1) ((0, [])) (⟨Nat.zero_le _, rfl⟩) (lep_of hF [10, 11, 20, 902, 903, 905, 24] rfl rfl ⟨rfl, rfl, rfl, rfl, rfl, rfl, rfl, rfl, rfl, rfl, trivial⟩) ?_
      rintro ⟨j, acc⟩ ⟨hj0, hC⟩
      dsimp only at hj0 hC ⊢
      refine a_seq ?_
      refine a_region ?_
      refine Pstep.go (st_lss rfl rfl rfl) ?_
      refine o_nil ?_
      refine a_seq ?_
      refine a_if rfl (fun h83 => ?_) (fun h83 => ?_)
      · have hj1 : j < (smI p).length := lt_cast h83
        refine a_skip ?_
        refine a_seq ?_
        refine a_block ?_
        refine a_seq ?_
        refine a_region ?_
        refine Pstep.go (st_indexD (j) rfl rfl (rfl) (getm hj1) Tryz.underlying26 rfl sz3 rfl) ?_
        refine Pstep.go (st_loadD1 rfl rfl on3 rfl) ?_
        refine Pstep.go (st_assign rfl rfl) ?_
        refine o_nil ?_
        refine a_drawn [[], [], [1], [1, 2], [1, 2, 3], [], [1, 2, 3, 4, 5], [], [7], [1, 2, 3, 4, 5, 6, 7, 8], [1, 2, 3, 4, 5, 6, 7, 8, 9], [0, 1, 2, 3, 4, 5, 6, 7, 8, 9, 10], [0, 1, 2, 3, 4, 5, 6, 7, 8, 9, 10, 11]] mixed rfl ?_
        refine dws ?_
        have hcl : acc.length ≤ 20 := by rw [hC, List.length_map, List.length_take]; omega
        have hib := itmOf_B hb (smI p)[j]
        refine d_pure [13] [] rfl rfl (fun _ => gp_none (st_move rfl rfl)) ?_
        refine d_pure [0] [] rfl rfl (fun _ => gp_none (st_move rfl rfl)) ?_
        refine d_pure [87] [] rfl rfl (fun _ => gp_none (st_nilCheckP rfl rfl)) ?_
        refine d_pure [88] [] rfl rfl (fun _ => gp_none (st_fieldP rfl fi154_0 rfl rfl rfl)) ?_
        refine d_pure [89] [10] rfl rfl (fun _ => gp_none (st_loadP rfl rfl rfl on151 rfl)) ?_
        refine d_pure [15] [] rfl rfl (fun _ => gp_none (st_move rfl rfl)) ?_
        refine d_pure [90, 91] [11] rfl rfl (fun _ => gp_none (st_lookW (itemsM p.it) (smI p)[j] itm0 (itmOf p (smI p)[j]) rfl rfl rfl mt151 kt3 za100 itm0_weakD (itmOf_get p (smI p)[j]) rfl)) ?_
        refine d_pure [12] [] rfl rfl (fun _ => gp_none (st_fieldP rfl fi157_0 rfl rfl rfl)) ?_
        refine d_pure [93] [24] rfl rfl (fun _ => gp_none (st_loadPS rfl rfl rw47 rfl rfl rfl)) ?_
        refine d_pure [92, 94] [] rfl rfl (fun _ => gp_none (st_callP (delta_p (itmOf p (smI p)[j]) (linL p)[n].r (by omega) (by omega) (by omega)) rfl rfl)) ?_
        refine d_eff [95] [41] [(96, _)] rfl rfl (fun _ => ge_none (st_buildSlice 41 sl168 rfl rfl rfl rfl rfl rfl rfl rfl)) (.inr ⟨96, _, rfl, rfl, rfl, rfl, rfl⟩) rfl rfl rfl rfl rfl ?_
        refine dwc 11 rfl rfl rfl ?_
        refine dw1 12 rfl rfl ?_
        refine Estep.go (st_appM (acc) ([dlOf p (linL p)[n] (smI p)[j]]) rfl rfl rfl rfl rfl rfl rfl rfl sl168 (by simp only [List.length_singleton]; omega) rfl rfl rfl rfl) ?_
        refine o_nil ⟨rfl, ?_⟩
        refine dw1 13 rfl rfl ?_
        refine Pstep.go (st_assign rfl rfl) ?_
        refine o_nil ⟨rfl, ?_⟩
        refine dwe ?_
        refine a_region ?_
        refine Pstep.go (st_add rfl rfl (wrapS (j + 1) (by omega)) rfl) ?_
        refine Pstep.go (st_move rfl rfl) ?_
        refine o_nil ?_
        exact ⟨(j + 1, acc ++ [dlOf p (linL p)[n] (smI p)[j]]), ⟨by show j + 1 ≤ _; omega, by show acc ++ [dlOf p (linL p)[n] (smI p)[j]] = ((smI p).take (j + 1)).map (dlOf p (linL p)[n]); rw [tk_map hj1, hC]⟩, by show (smI p).length - (j + 1) < (smI p).length - j; omega, lep_of hF [10, 11, 20, 902, 903, 905, 24] rfl (rfl) ⟨rfl, rfl, rfl, rfl, rfl, rfl, rfl, rfl, rfl, rfl, trivial⟩⟩
      · have hfa : acc = rwOf p (linL p)[n] := by rw [hC, List.take_of_length_le (by have h := h83; omega)]; rfl
        refine a_exit ?_
        have hDl : DL.length ≤ 1000 := by rw [hD, List.length_map, List.length_take]; omega
        have hRl : RL.length ≤ 1000 := by rw [hR, List.length_map, List.length_take]; omega
        refine a_freezeM (emb := intD) 13 905 acc rfl rfl rfl rfl rfl rfl rfl ?_
        refine a_ghostR 950 902 0 rfl rfl rfl rfl rfl fun a1 c1 => ?_
        refine a_ghostR 951 903 0 rfl rfl rfl rfl rfl fun a2 c2 => ?_
        refine a_rawC 950 0 20 0 2 rfl rfl rfl rfl rfl ?_
        refine a_rawC 951 0 20 0 3 rfl rfl rfl rfl rfl ?_
        refine a_drawn [[], [], [], [2], [2, 3], [2, 3, 4], [], [6], [2, 3, 4, 5, 6, 7], [], [9], [9, 10], [9, 10, 11], [], [13], [13, 14], [2, 3, 4, 5, 6, 7, 8, 9, 10, 11, 12, 13, 14, 15], [0, 2, 3, 4, 5, 6, 7, 8, 9, 10, 11, 12, 13, 14, 15, 16], [0, 2, 3, 4, 5, 6, 7, 8, 9, 10, 11, 12, 13, 14, 15, 16, 17], [0, 2, 3, 4, 5, 6, 7, 8, 9, 10, 11, 12, 13, 14, 15, 16, 17, 18], [0, 1, 2, 3, 4, 5, 6, 7, 8, 9, 10, 11, 12, 13, 14, 15, 16, 17, 18, 19], [0, 1, 2, 3, 4, 5, 6, 7, 8, 9, 10, 11, 12, 13, 14, 15, 16, 17, 18, 19, 20], [0, 1, 2, 3, 4, 5, 6, 7, 8, 9, 10, 11, 12, 13, 14, 15, 16, 17, 18, 19, 20, 21]] mixed rfl ?_
        refine dws ?_
        refine d_pure [3] [] rfl rfl (fun _ => gp_none (st_move rfl rfl)) ?_
        refine d_pure [3] [] rfl rfl (fun _ => gp_none (st_move rfl rfl)) ?_
        refine d_pure [3] [] rfl rfl (fun _ => gp_none (st_move rfl rfl)) ?_
        refine d_pure [101] [] rfl rfl (fun _ => gp_none (st_nilCheckP rfl rfl)) ?_
        refine d_pure [102] [] rfl rfl (fun _ => gp_none (st_fieldP rfl fi170_2 rfl rfl rfl)) ?_
        refine d_pure [103] [20, 950] rfl rfl (fun _ => gp_none (st_loadO 950 0 rfl rfl rfl rfl (by simp) on167 rfl)) ?_
        refine d_pure [13] [] rfl rfl (fun _ => gp_none (st_move rfl rfl)) ?_
        refine d_eff [105] [42] [(106, _)] rfl rfl (fun _ => ge_none (st_buildSlice 42 sl167 rfl rfl rfl rfl rfl rfl rfl rfl)) (.inr ⟨106, _, rfl, rfl, rfl, rfl, rfl⟩) rfl rfl rfl rfl rfl ?_
        refine d_eff [104, 106] [902, 42, 950] [(107, _)] rfl rfl (fun _ => ge_none (st_appM (DL) ([acc]) rfl rfl rfl rfl rfl rfl rfl rfl sl167 (by simp only [List.length_singleton]; omega) rfl rfl rfl rfl)) (.inr ⟨107, _, rfl, rfl, rfl, rfl, rfl⟩) rfl rfl rfl rfl rfl ?_
        refine d_pure [3] [] rfl rfl (fun _ => gp_none (st_move rfl rfl)) ?_
        refine d_pure [108] [] rfl rfl (fun _ => gp_none (st_nilCheckP rfl rfl)) ?_
        refine d_pure [109] [] rfl rfl (fun _ => gp_none (st_fieldP rfl fi170_3 rfl rfl rfl)) ?_
        refine d_pure [110] [20, 951] rfl rfl (fun _ => gp_none (st_loadO 951 0 rfl rfl rfl rfl (by simp) on168 rfl)) ?_
        refine d_pure [12] [] rfl rfl (fun _ => gp_none (st_fieldP rfl fi157_1 rfl rfl rfl)) ?_
        refine d_pure [112] [24] rfl rfl (fun _ => gp_none (st_loadP rfl rfl rfl on2 rfl)) ?_
        refine d_eff [113] [43] [(114, _)] rfl rfl (fun _ => ge_none (st_buildSlice 43 sl168 rfl rfl rfl rfl rfl rfl rfl rfl)) (.inr ⟨114, _, rfl, rfl, rfl, rfl, rfl⟩) rfl rfl rfl rfl rfl ?_
        refine d_eff [111, 114] [903, 43, 951] [(115, _)] rfl rfl (fun _ => ge_none (st_appM (RL) ([(linL p)[n].n]) rfl rfl rfl rfl rfl rfl rfl rfl sl168 (by simp only [List.length_singleton]; omega) rfl rfl rfl rfl)) (.inr ⟨115, _, rfl, rfl, rfl, rfl, rfl⟩) rfl rfl rfl rfl rfl ?_
        refine d_pure [99] [] rfl rfl (fun _ => gp_none (st_nilCheckP rfl rfl)) ?_
        refine d_pure [116] [] rfl rfl (fun _ => gp_none (st_fieldP rfl fi170_2 rfl rfl rfl)) ?_
        refine d_eff [117, 107] [20, 902] [] rfl rfl (fun _ => ge_none (st_storeP rfl rfl rfl rfl rfl rfl rfl sz167)) (.inl ⟨rfl, rfl⟩) rfl rfl rfl rfl rfl ?_
        refine dwc 20 rfl rfl rfl ?_
        refine dw1 21 rfl rfl ?_
        refine Pstep.go (st_nilCheckP rfl rfl) ?_
        refine o_nil ⟨rfl, ?_⟩
        refine dw1 22 rfl rfl ?_
        refine Pstep.go (st_fieldP rfl fi170_3 rfl rfl rfl) ?_
        refine o_nil ⟨rfl, ?_⟩
        refine dw1 23 rfl rfl ?_
        refine Estep.go (st_storeP rfl rfl rfl rfl rfl rfl rfl sz168) ?_
        refine o_nil ⟨rfl, ?_⟩
        refine dwe ?_
        refine a_region ?_
        refine Pstep.go (st_add rfl rfl (wrapS (n + 1) (by omega)) rfl) ?_
        refine Pstep.go (st_move rfl rfl) ?_
        refine o_nil ?_
        exact ⟨(n + 1, DL ++ [acc], RL ++ [(linL p)[n].n]), ⟨by show n + 1 ≤ _; omega, by show DL ++ [acc] = ((linL p).take (n + 1)).map (rwOf p); rw [tk_map hn1, hD, hfa], by show RL ++ [(linL p)[n].n] = ((linL p).take (n + 1)).map Lin.n; rw [tk_map hn1, hR]⟩, by show (linL p).length - (n + 1) < (linL p).length - n; omega, lep_of hF [10, 11, 20, 902, 903] rfl (rfl) ⟨rfl, rfl, rfl, rfl, rfl, trivial⟩⟩
    · refine a_exit ?_
      refine a_seq ?_
      have hDL : DL = (linL p).map (rwOf p) := by rw [hD, List.take_of_length_le (by have h := h74; omega)]
      have hRL : RL = (linL p).map Lin.n := by rw [hR, List.take_of_length_le (by have h := h74; omega)]
      refine a_freezeC (ys := DL.map rowZ) 20 0 2 902 rfl rfl rfl (Nat.le_of_eq (by simp)) (List.take_of_length_le (by simp)) rfl rfl rfl rfl rfl rfl ?_
      refine a_freezeC (ys := RL.map intD) 20 0 3 903 rfl rfl rfl (Nat.le_of_eq (by simp)) (List.take_of_length_le (by simp)) rfl rfl rfl rfl rfl rfl ?_
      refine a_freezeB 3 20 (smaD ⟨smI p, BL, DL, RL⟩) [10, 11] hF rfl rfl rfl (by intro c hc; simp [D.cells] at hc; rcases hc with rfl | rfl | rfl | rfl <;> rfl) rfl rfl rfl ?_
      refine a_region ?_
      refine Pstep.go (st_move rfl rfl) ?_
      refine Pstep.go (st_assign rfl rfl) ?_
      refine o_nil ?_
      refine a_ret ?_
      exact ⟨_, [10, 11], _, res_of rfl, rfl, rfl, by rw [hBL, hDL, hRL]; rfl, rfl⟩
end Go.Proofs.YtnamabifclidmaaGreat
/- Layer 29: problems with few items are begun; Count. -/
namespace Go.Proofs.YtnamabifclidmaaGreat
open Go.RowKit

set_option maxRecDepth 100000 in
theorem begin_ok (p : Prb) (hb : PrbB p) (hE : prbE p = 0) (h1 : p.it.length ≤ 20) (h2 : p.ro.length ≤ 1000) : PCalls Tryz.prog 59 [.d (prbD p)] (.tup [.ptr (smaD (smlOf p)), intD 0]) := by
  have hpr := (analyze_ok p hb hE).by [(3, 10), (2, 11)] rfl
  refine a_enter Tryz.func59 rfl rfl Tryz.ntmps59 rfl rfl rfl fun F hF => ?_
  refine a_seq ?_
  refine a_region ?_
  refine Estep.go (st_box 1 rfl rfl rfl rfl rfl rfl rfl) ?_
  refine Pstep.go (st_assign rfl rfl) ?_
  refine Pstep.go (st_assign rfl rfl) ?_
  refine o_nil ?_
  refine a_seq ?_
  refine a_region ?_
  first | refine Pstep.go (st_loadDS rfl rfl rw35 rfl) ?_ | refine Pstep.go (st_loadPS rfl rfl rw35 rfl rfl rfl) ?_ | refine Pstep.go (st_loadRS rfl rfl (rfl) rfl rw35 rfl) ?_
  refine Estep.go (st_callD hpr rfl [10, 11] ⟨rfl, rfl, trivial⟩ rfl rfl rfl rfl rfl rfl rfl rfl rfl) ?_
  refine Pstep.go (st_move rfl rfl) ?_
  first | refine Pstep.go (st_extractD rfl rfl rfl) ?_ | refine Pstep.go (st_extract rfl rfl rfl) ?_
  first | refine Pstep.go (st_extractD rfl rfl rfl) ?_ | refine Pstep.go (st_extract rfl rfl rfl) ?_
  refine Pstep.go (st_assign rfl rfl) ?_
  refine Pstep.go (st_assign rfl rfl) ?_
  refine o_nil ?_
  refine a_seq ?_
  refine a_seq ?_
  refine a_region ?_
  refine Pstep.go (st_move rfl rfl) ?_
  first | refine Pstep.go (st_neq rfl rfl rfl) ?_ | refine Pstep.go (st_neqSL rfl rfl rfl) ?_ | refine Pstep.go (st_neqS rfl rfl rfl) ?_ | refine Pstep.go (st_neqB Tryz.underlying29 rfl rfl rfl) ?_ | refine Pstep.go (st_neqP Tryz.underlying29 rfl rfl rfl) ?_ | refine Pstep.go (st_neqN Tryz.underlying29 rfl rfl) ?_ | refine Pstep.go (st_neqF Tryz.underlying29 rfl rfl rfl) ?_ | refine Pstep.go (st_neqFN Tryz.underlying29 rfl rfl) ?_
  refine o_nil ?_
  refine a_false rfl ((by decide)) ?_
  refine a_skip ?_
  refine a_seq ?_
  refine a_seq ?_
  refine a_region ?_
  first | refine Pstep.go (st_fieldP rfl fi35_1 rfl rfl rfl) ?_ | refine Pstep.go (st_fieldF1 rfl fi35_1 rfl rfl rfl) ?_ | refine Pstep.go (st_fieldFS rfl fi35_1 rfl rfl rfl) ?_ | refine Pstep.go (st_fieldR rfl fi35_1 rfl rfl rfl) ?_
  first | refine Pstep.go (st_loadD1 rfl rfl on33 rfl) ?_ | refine Pstep.go (st_loadP rfl rfl rfl on33 rfl) ?_ | refine Pstep.go (st_loadR rfl rfl (rfl) rfl on33 rfl) ?_
  first | refine Pstep.go (st_lenMap rfl Tryz.underlying33 rfl) ?_ | refine Pstep.go (st_lenD rfl rfl Tryz.underlying33 rfl) ?_ | refine Pstep.go (st_lenO rfl Tryz.underlying33 rfl) ?_ | refine Pstep.go (st_lenSL rfl Tryz.underlying33 rfl) ?_ | refine Pstep.go (st_lenS rfl Tryz.underlying33 rfl) ?_
  first | refine Pstep.go (st_gtr rfl rfl rfl) ?_ | refine Pstep.go (st_gtrS rfl rfl rfl) ?_
  refine o_nil ?_
  refine a_false rfl ((decide_eq_false (by omega))) ?_
  refine a_skip ?_
  refine a_seq ?_
  refine a_region ?_
  refine Pstep.go (st_move rfl rfl) ?_
  refine Estep.go (st_callD (reduce_c p hE hb h1 h2) rfl [10, 11] ⟨rfl, rfl, trivial⟩ rfl rfl rfl rfl rfl rfl rfl rfl rfl) ?_
  refine Pstep.go (st_assign rfl rfl) ?_
  refine Pstep.go (st_assign rfl rfl) ?_
  refine o_nil ?_
  refine a_ret ?_
  exact ⟨_, [], [], res_of rfl, rfl, rfl, rfl, rfl⟩
theorem enumX_lt {n : Nat} (hn : n ≤ 31) : ∀ (l frm x : Nat), x < 4294967296 → ∀ y ∈ enumX n l frm x, y < 4294967296
  | 0, _, x, hx, y, hy => by
    have : y = x := by simpa [enumX] using hy
    rw [this]; exact hx
  | l + 1, frm, x, hx, y, hy => by
    unfold enumX at hy
    obtain ⟨i, hi, hy⟩ := List.mem_flatMap.1 hy
    obtain ⟨j, hj, rfl⟩ := List.mem_map.1 hi
    have hj' := List.mem_range.1 hj
    exact enumX_lt hn l _ _ (or_lt hx (shl_lt (by omega))) y hy
theorem pow_sum (f : Nat → Nat) (m : Nat) : ∀ c, c ≤ m → (∀ j, j < c → f j ≤ 2 ^ (m - (j + 1))) → ((List.range c).map f).sum + 2 ^ (m - c) ≤ 2 ^ m
  | 0, _, _ => by simp
  | c + 1, h, hf => by
    have ih := pow_sum f m c (by omega) fun j hj => hf j (by omega)
    have h2 := hf c (by omega)
    have h3 : 2 ^ (m - c) = 2 ^ (m - (c + 1)) + 2 ^ (m - (c + 1)) := by
      have : m - c = (m - (c + 1)) + 1 := by omega
      rw [this, Nat.pow_succ]; omega
    rw [List.range_succ, List.map_append, List.sum_append, List.map_singleton, List.sum_singleton]
    omega
theorem enumX_len {n : Nat} : ∀ (l frm x : Nat), (enumX n l frm x).length ≤ 2 ^ (n - frm)
  | 0, frm, x => by
    have : 0 < 2 ^ (n - frm) := Nat.pow_pos (by omega)
    simp [enumX]; omega
  | l + 1, frm, x => by
    unfold enumX
    rw [List.length_flatMap, List.map_map]
    have h := pow_sum (((fun i => (enumX n l (i + 1) (x ||| 1 <<< i)).length)) ∘ fun j => frm + j) (n - frm) (n + 1 - (l + 1) - frm) (by omega) (fun j hj => by
      have := enumX_len l (frm + j + 1) (x ||| 1 <<< (frm + j)) (n := n)
      have e : n - frm - (j + 1) = n - (frm + j + 1) := by omega
      rw [e]; exact this)
    exact Nat.le_trans (Nat.le_add_right _ _) h
theorem allX_lt {s : Sma} (hn : s.ids.length ≤ 31) : ∀ y ∈ allX s, y < 4294967296 := fun y hy => by
  unfold allX at hy
  obtain ⟨k, _, hy⟩ := List.mem_flatMap.1 hy
  exact enumX_lt hn k 0 0 (by omega) y (List.mem_filter.1 hy).1
theorem allX_len {s : Sma} (hn : s.ids.length ≤ 20) : (allX s).length ≤ 100000000 := by
  unfold allX
  have h := flat_len (f := fun k => (enumX s.ids.length k 0 0).filter (admS s)) (n := 1048576) (l := List.range (s.ids.length + 1)) (fun k _ => by
    have h1 := enumX_len (n := s.ids.length) k 0 0
    have h2 : 2 ^ (s.ids.length - 0) ≤ 2 ^ 20 := Nat.pow_le_pow_right (by omega) (by omega)
    have h3 : (2 : Nat) ^ 20 = 1048576 := by decide
    exact Nat.le_trans (List.length_filter_le _ _) (by omega))
  rw [List.length_range] at h
  have : (s.ids.length + 1) * 1048576 ≤ 21 * 1048576 := Nat.mul_le_mul_right _ (by omega)
  omega
abbrev hCt (s : Sma) (q : Nat × Nat) : Hp := [(2, [.blk 124 [.d (.ptr (smaD s))]]), (3, [.blk 3 [.d (intD (q.1 : Int))]]), (4, [.blk 3 [.d (intD (q.2 : Int))]])]
def stepC (s : Sma) (q : Nat × Nat) (x : Nat) : (Nat × Nat) × Bool := ((q.1 + 1, q.2 + bif feaS s x then 1 else 0), true)
theorem feed_cnt (s : Sma) : ∀ (l : List Nat) (q : Nat × Nat), feed (stepC s) q l = (q.1 + l.length, q.2 + (l.filter (feaS s)).length)
  | [], q => by simp [feed]
  | x :: l, q => by
    rw [feed_cons']
    show (if true = true then feed (stepC s) (q.1 + 1, q.2 + bif feaS s x then 1 else 0) l else _) = _
    rw [if_pos rfl, feed_cnt s l]
    cases h : feaS s x <;> simp [h] <;> omega
theorem feeds_cnt {P : Program} {l : Nat} {H : Nat × Nat → Hp} (s : Sma) {n : Nat} (hY : ∀ a b x, a < n → b ≤ a → x < 4294967296 → YCalls P l (encU x) (H (a, b)) fun v H' => v = .d (.raw (.bool true)) ∧ H' = H (a + 1, b + bif feaS s x then 1 else 0)) : ∀ (xs : List Nat) (q : Nat × Nat), (∀ x ∈ xs, x < 4294967296) → q.1 + xs.length ≤ n → q.2 ≤ q.1 → Feeds P l encU H (stepC s) q xs
  | [], _, _, _, _ => trivial
  | x :: xs, (a, b), hx, h, hq => ⟨hY a b x (by simp at h; omega) hq (hx x (by simp)), fun _ => feeds_cnt s hY xs (a + 1, b + bif feaS s x then 1 else 0) (fun y hy => hx y (by simp [hy])) (by simp at h ⊢; omega) (by show b + (bif feaS s x then 1 else 0) ≤ a + 1; cases feaS s x <;> simp at hq ⊢ <;> omega)⟩
/-- What is known of a small form. -/
structure SmaB (s : Sma) : Prop where
  n : s.ids.length ≤ 20
  b : s.bl.length ≤ 20
  u : ∀ b ∈ s.bl, b < 4294967296
  r : s.rm.length ≤ 1000
  d : s.de.length = s.rm.length
  v : ∀ r ∈ s.de, r.length ≤ 32 ∧ ∀ v ∈ r, -1000000000000000 ≤ v ∧ v ≤ 1000000000000000
  m : ∀ v ∈ s.rm, 0 ≤ v ∧ v ≤ 4000000000000000
theorem smlB {p : Prb} (hp : prbE p = 0) (h1 : p.it.length ≤ 20) (h2 : p.ro.length ≤ 1000) : SmaB (smlOf p) := by
  have hIl := smI_len hp
  have hLl := linL_len p
  refine ⟨by show (smI p).length ≤ 20; omega, by show ((smI p).map (blOf p)).length ≤ 20; rw [List.length_map]; omega, fun b hb => ?_, by show ((linL p).map Lin.n).length ≤ 1000; rw [List.length_map]; omega, by show ((linL p).map (rwOf p)).length = ((linL p).map Lin.n).length; simp, fun r hr => ?_, fun v hv => ?_⟩
  · obtain ⟨i, _, rfl⟩ := List.mem_map.1 hb
    exact bits_lt (by omega) _
  · obtain ⟨x, _, rfl⟩ := List.mem_map.1 hr
    refine ⟨by show ((smI p).map (dlOf p x)).length ≤ 32; rw [List.length_map]; omega, fun v hv => ?_⟩
    obtain ⟨i, _, rfl⟩ := List.mem_map.1 hv
    exact dltE_b _ _
  · obtain ⟨x, hx, rfl⟩ := List.mem_map.1 hv
    exact linL_n hp x hx
set_option maxRecDepth 100000 in
theorem count_ok (p : Prb) (hb : PrbB p) (hE : prbE p = 0) (h1 : p.it.length ≤ 20) (h2 : p.ro.length ≤ 1000) : PCalls Tryz.prog 36 [.d (prbD p)] (.tup [intD ((allX (smlOf p)).length : Nat), intD (((allX (smlOf p)).filter (feaS (smlOf p))).length : Nat), intD 0]) := by
  have hbg := begin_ok p hb hE h1 h2
  have hB := smlB hE h1 h2
  obtain ⟨s, hs⟩ : ∃ s, smlOf p = s := ⟨_, rfl⟩
  rw [hs] at hbg hB ⊢
  have hB0 := hB
  have hAl := allX_len hB.n
  have hAx := allX_lt (s := s) (by have := hB.n; omega)
  have hfe := fun x (hx : x < 4294967296) => feaS_p s x hx (by have := hB.r; omega) hB.d hB.v hB.m
  have hfe' : ∀ x, x < 4294967296 → ∀ c, feaS s x = c → PCalls Tryz.prog 61 [.d (.ptr (smaD s)), .d (u32D x)] (boolD c) := fun x hx c hc => by rw [← hc]; exact hfe x hx
  refine a_enterR Tryz.func36 rfl rfl Tryz.ntmps36 rfl rfl rfl fun F hF hFl => ?_
  refine a_seq ?_
  refine a_region ?_
  refine Estep.go (st_box 1 rfl rfl rfl rfl rfl rfl rfl) ?_
  refine Pstep.go (st_assign rfl rfl) ?_
  refine Pstep.go (st_assign rfl rfl) ?_
  refine Pstep.go (st_assign rfl rfl) ?_
  refine o_nil ?_
  refine a_seq ?_
  refine a_region ?_
  first | refine Pstep.go (st_loadDS rfl rfl rw35 rfl) ?_ | refine Pstep.go (st_loadPS rfl rfl rw35 rfl rfl rfl) ?_ | refine Pstep.go (st_loadRS rfl rfl (rfl) rfl rw35 rfl) ?_
  refine Pstep.go (st_callP (hbg) rfl rfl) ?_
  refine Pstep.go (st_move rfl rfl) ?_
  first | refine Pstep.go (st_extractD rfl rfl rfl) ?_ | refine Pstep.go (st_extract rfl rfl rfl) ?_
  first | refine Pstep.go (st_extractD rfl rfl rfl) ?_ | refine Pstep.go (st_extract rfl rfl rfl) ?_
  refine Estep.go (st_alloc 2 zl124 rfl rfl rfl rfl) ?_
  refine Estep.go (st_storeP rfl rfl rfl rfl rfl rfl rfl sz124) ?_
  refine Pstep.go (st_assign rfl rfl) ?_
  refine o_nil ?_
  refine a_seq ?_
  refine a_seq ?_
  refine a_region ?_
  refine Pstep.go (st_move rfl rfl) ?_
  first | refine Pstep.go (st_neq rfl rfl rfl) ?_ | refine Pstep.go (st_neqSL rfl rfl rfl) ?_ | refine Pstep.go (st_neqS rfl rfl rfl) ?_ | refine Pstep.go (st_neqB Tryz.underlying29 rfl rfl rfl) ?_ | refine Pstep.go (st_neqP Tryz.underlying29 rfl rfl rfl) ?_ | refine Pstep.go (st_neqN Tryz.underlying29 rfl rfl) ?_ | refine Pstep.go (st_neqF Tryz.underlying29 rfl rfl rfl) ?_ | refine Pstep.go (st_neqFN Tryz.underlying29 rfl rfl) ?_
  refine o_nil ?_
  refine a_false rfl ((by decide)) ?_
  refine a_skip ?_
  refine a_seq ?_
  refine a_region ?_
  refine Estep.go (st_alloc 3 zl3 rfl rfl rfl rfl) ?_
  refine Estep.go (st_alloc 4 zl3 rfl rfl rfl rfl) ?_
  refine Estep.go (st_storeP rfl rfl rfl rfl rfl rfl rfl sz3) ?_
  refine Estep.go (st_storeP rfl rfl rfl rfl rfl rfl rfl sz3) ?_
  refine o_nil ?_
  refine a_seq ?_
  refine a_seq ?_
  refine a_region ?_
  first | refine Pstep.go (st_loadD1 rfl rfl on124 rfl) ?_ | refine Pstep.go (st_loadP rfl rfl rfl on124 rfl) ?_ | refine Pstep.go (st_loadR rfl rfl (rfl) rfl on124 rfl) ?_
  refine Estep.go (st_callD (sets_c s) rfl [] trivial rfl rfl rfl rfl rfl rfl rfl rfl rfl) ?_
  refine o_nil ?_
  refine a_block ?_
  refine a_keep [5, 7, 8, 19] rfl ?_
  refine a_only [2, 3, 4] hF rfl rfl ?_
  refine a_range (γ := Unit) hFl 900 rfl rfl rfl rfl rfl [2, 3, 4] (CHr := hCt s (0, 0)) (fun _ => True) (fun _ => hCt s ((allX s).length, ((allX s).filter (feaS s)).length)) (fun _ => .ready) (fun _ => none) ⟨rfl, rfl, rfl, trivial⟩ rfl rfl rfl (fun _ => rfl) (fun _ => rfl) rfl (fun _ _ => by simp) (fun _ _ => ⟨rfl, rfl⟩) [2, 3, 4] hF rfl rfl (fun _ _ => rfl) (fun l A B hA hB => ?_) (fun _ _ => ?_)
  · refine (setsF_c s hB0.u (by have := hB0.b; omega) (by have := hB0.n; omega) l (fun q : Nat × Nat => (900, [.loop ⟨l, 30, [(5, .ptr 2 0 0), (7, .ptr 3 0 0), (8, .ptr 4 0 0), (19, .fn 85 [cS s])], .ready, none, #[20], A, B⟩]) :: hCt s q) [900, 2, 3, 4] (stepC s) (0, 0) (fun _ => rfl) (fun _ => rfl) (fun _ => rfl) rfl rfl (fun _ => rfl) (fun _ => rfl) ?_).mono (fun r H' ⟨e1, e2⟩ => ⟨e1, (), trivial, by rw [e2, feed_cnt]; simp only [Nat.zero_add]⟩)
    refine feeds_cnt s (n := 100000000) (fun a b x ha hba hx => ?_) (allX s) (0, 0) hAx (by simp only [Nat.zero_add]; exact hAl) (Nat.le_refl _)
    have hf2 := hfe' x hx
    refine yc_round (lf := 900) rfl rfl rfl rfl fun F hF hr => ?_
    show Awp _ _ A _ _
    rw [hA]
    refine a_region ?_
    refine Pstep.go (st_assign rfl rfl) ?_
    refine o_nil ?_
    refine ⟨rfl, _, _, rfl, rfl, rfl, rfl, ?_⟩
    show Awp _ _ B _ _
    rw [hB]
    refine a_block ?_
    refine a_seq ?_
    refine a_region ?_
    cases hfx : feaS s x
    · first | refine Pstep.go (st_loadD1 rfl rfl on3 rfl) ?_ | refine Pstep.go (st_loadP rfl rfl rfl on3 rfl) ?_ | refine Pstep.go (st_loadR rfl rfl (rfl) rfl on3 rfl) ?_
      refine Pstep.go (st_add rfl rfl (wrapS (a + 1) (by omega)) rfl) ?_
      refine Estep.go (st_storeP rfl rfl rfl rfl rfl rfl rfl sz3) ?_
      refine o_nil ?_
      refine a_seq ?_
      refine a_region ?_
      first | refine Pstep.go (st_loadD1 rfl rfl on124 rfl) ?_ | refine Pstep.go (st_loadP rfl rfl rfl on124 rfl) ?_ | refine Pstep.go (st_loadR rfl rfl (rfl) rfl on124 rfl) ?_
      refine Pstep.go (st_move rfl rfl) ?_
      refine Pstep.go (st_callP (hf2 _ hfx) rfl rfl) ?_
      refine o_nil ?_
      refine a_false rfl (rfl) ?_
      refine a_skip ?_
      exact ⟨none, _, _, [900, 2, 3, 4], _, rfl, rfl, rfl, rfl, rfl, rfl, rfl, rfl⟩
    · first | refine Pstep.go (st_loadD1 rfl rfl on3 rfl) ?_ | refine Pstep.go (st_loadP rfl rfl rfl on3 rfl) ?_ | refine Pstep.go (st_loadR rfl rfl (rfl) rfl on3 rfl) ?_
      refine Pstep.go (st_add rfl rfl (wrapS (a + 1) (by omega)) rfl) ?_
      refine Estep.go (st_storeP rfl rfl rfl rfl rfl rfl rfl sz3) ?_
      refine o_nil ?_
      refine a_seq ?_
      refine a_region ?_
      first | refine Pstep.go (st_loadD1 rfl rfl on124 rfl) ?_ | refine Pstep.go (st_loadP rfl rfl rfl on124 rfl) ?_ | refine Pstep.go (st_loadR rfl rfl (rfl) rfl on124 rfl) ?_
      refine Pstep.go (st_move rfl rfl) ?_
      refine Pstep.go (st_callP (hf2 _ hfx) rfl rfl) ?_
      refine o_nil ?_
      refine a_true rfl (rfl) ?_
      refine a_region ?_
      first | refine Pstep.go (st_loadD1 rfl rfl on3 rfl) ?_ | refine Pstep.go (st_loadP rfl rfl rfl on3 rfl) ?_ | refine Pstep.go (st_loadR rfl rfl (rfl) rfl on3 rfl) ?_
      refine Pstep.go (st_add rfl rfl (wrapS (b + 1) (by omega)) rfl) ?_
      refine Estep.go (st_storeP rfl rfl rfl rfl rfl rfl rfl sz3) ?_
      refine o_nil ?_
      exact ⟨none, _, _, [900, 2, 3, 4], _, rfl, rfl, rfl, rfl, rfl, rfl, rfl, rfl⟩
  · refine a_seq ?_
    refine a_drawn [[], [], [0], [0, 1, 2], [0, 1, 2, 3]] mixed rfl ?_
    refine dws ?_
    first | refine d_pure [7] [3] rfl rfl (fun _ => gp_none (st_loadD1 rfl rfl on3 rfl)) ?_ | refine d_pure [7] [3] rfl rfl (fun _ => gp_none (st_loadP rfl rfl rfl on3 rfl)) ?_ | refine d_pure [7] [3] rfl rfl (fun _ => gp_none (st_loadR rfl rfl (rfl) rfl on3 rfl)) ?_
    first | refine d_pure [8] [4] rfl rfl (fun _ => gp_none (st_loadD1 rfl rfl on3 rfl)) ?_ | refine d_pure [8] [4] rfl rfl (fun _ => gp_none (st_loadP rfl rfl rfl on3 rfl)) ?_ | refine d_pure [8] [4] rfl rfl (fun _ => gp_none (st_loadR rfl rfl (rfl) rfl on3 rfl)) ?_
    first | refine d_pure [28] [] rfl rfl (fun _ => gp_none (st_assign rfl rfl)) ?_ | refine d_pureA [28] rfl rfl (fun _ => gp_none (st_assign rfl rfl)) ?_
    refine dwc 3 rfl rfl rfl ?_
    refine dw1 4 rfl rfl ?_
    refine Pstep.go (st_assign rfl rfl) ?_
    refine o_nil ⟨rfl, ?_⟩
    refine dw1 5 rfl rfl ?_
    refine Pstep.go (st_assign rfl rfl) ?_
    refine o_nil ⟨rfl, ?_⟩
    refine dwe ?_
    refine a_ret ?_
    exact ⟨_, [], [], res_of rfl, rfl, rfl, rfl, rfl⟩
end Go.Proofs.YtnamabifclidmaaGreat
/- Layer 29: the example of the chapter. -/
namespace Go.Proofs.YtnamabifclidmaaGreat
open Go.RowKit

deriving instance DecidableEq for Lin
def accQ (a : List UInt8) : Acc := ⟨a, 0, [67, 65, 83, 72]⟩
def payI (id sq : Int) (a b : List UInt8) (n : Int) : Itm := ⟨id, 0, sq, [⟨accQ a, 0 - n⟩, ⟨accQ b, n⟩], [], []⟩
set_option maxRecDepth 100000 in
theorem pay0_p (id sq n : Int) (a b : List UInt8) (h0 : 0 ≤ n) (h1 : n ≤ 1000000000000000) : PCalls Tryz.prog 42 [.d (intD id), .d (intD sq), .d (strD a), .d (strD b), .d (intD n)] (.agg [intD id, intD 0, intD sq, .sl none ((payI id sq a b n).po.map postD), .sl (some true) [], .sl (some true) []]) := by
  refine a_enter Tryz.func42 rfl rfl Tryz.ntmps42 rfl rfl rfl fun F hF => ?_
  refine a_seq ?_
  refine a_region ?_
  refine Estep.go (st_alloc 1 zl100 rfl rfl rfl rfl) ?_
  refine o_nil ?_
  refine a_seq ?_
  refine a_region ?_
  refine Pstep.go (st_move rfl rfl) ?_
  refine Pstep.go (st_move rfl rfl) ?_
  refine Pstep.go (st_move rfl rfl) ?_
  refine Pstep.go (st_build zl45 pl45 rfl rfl rfl) ?_
  refine Pstep.go (st_move rfl rfl) ?_
  refine Pstep.go (st_sub rfl rfl (IntWalk.i64_in _ (by omega)) rfl) ?_
  refine Pstep.go (st_build zl142 pl142 rfl rfl rfl) ?_
  refine Pstep.go (st_move rfl rfl) ?_
  refine Pstep.go (st_build zl45 pl45 rfl rfl rfl) ?_
  refine Pstep.go (st_move rfl rfl) ?_
  refine Pstep.go (st_build zl142 pl142 rfl rfl rfl) ?_
  refine Estep.go (st_buildSlice 2 sl97 rfl rfl rfl rfl rfl rfl rfl rfl) ?_
  refine o_freezeM (emb := postD) 22 2 (payI id sq a b n).po rfl rfl rfl rfl rfl rfl rfl ?_
  refine Pstep.go (st_build zl100 pl100 rfl rfl rfl) ?_
  refine Estep.go (st_storeP rfl rfl rfl rfl rfl rfl rfl sz100) ?_
  refine o_nil ?_
  refine a_ret ?_
  exact ⟨_, [], [], res_of rfl, rfl, rfl, rfl, rfl⟩
theorem pay29_p (id sq n : Int) (a b : List UInt8) (h0 : 0 ≤ n) (h1 : n ≤ 1000000000000000) : PCalls Tryz.prog 42 [.d (intD id), .d (intD sq), .d (strD a), .d (strD b), .d (intD n)] (itmD (payI id sq a b n)) :=
  (pay0_p id sq n a b h0 h1).weak fun w O v h => h.aggMono rfl (by simp [D.one]) fun i c c' hc hc' v hv => by
    match i, hc, hc' with
    | 0, hc, hc' => injection hc with hc; injection hc' with hc'; subst hc hc'; exact hv
    | 1, hc, hc' => injection hc with hc; injection hc' with hc'; subst hc hc'; exact hv
    | 2, hc, hc' => injection hc with hc; injection hc' with hc'; subst hc hc'; exact hv
    | 3, hc, hc' => injection hc with hc; injection hc' with hc'; subst hc hc'; exact hv
    | 4, hc, hc' => injection hc with hc; injection hc' with hc'; subst hc hc'; exact hv.anyNil
    | 5, hc, hc' => injection hc with hc; injection hc' with hc'; subst hc hc'; exact hv.anyNil
def rcA : Rsc := ⟨0, accQ [65], [], []⟩
def rcB : Rsc := ⟨0, accQ [66], [], []⟩
def rosK : List Roo := [⟨rcA, 0⟩, ⟨rcB, 0⟩]
def itsK : List Itm := [payI 1 1 [65] [66] 5, payI 2 2 [66] [65] 5]
def itK3 : Itm := payI 3 3 [65] [66] 1
def pK2 : Prb := ⟨rosK, itsK⟩
def pK3 : Prb := ⟨rosK, itsK ++ [itK3]⟩
theorem pK2_E : prbE pK2 = 0 := by decide
theorem pK2_R : linR rosK = rosK := (linR_one pK2_E (List.Perm.refl _) (by decide)).symm
theorem sortI_nil : sortI [] = [] := List.eq_nil_of_length_eq_zero (sortI_len [])
theorem pK2_ids : ordI_ids pK2 = [1, 2] := by decide
theorem pK3_ids : ordI_ids pK3 = [1, 2, 3] := by decide
theorem pK2_sm : smI pK2 = [1, 2] := by
  unfold smI; rw [pK2_ids]; exact (sort_one (List.Perm.refl _) (by decide)).symm
theorem pK2_L : linL pK2 = [⟨rcA, 0, [1]⟩, ⟨rcB, 0, [2]⟩] := by
  unfold linL; rw [show pK2.ro = rosK from rfl, pK2_R]; decide
theorem pK3_L : linL pK3 = [⟨rcA, 0, [1, 3]⟩, ⟨rcB, 0, [2]⟩] := by
  unfold linL; rw [show pK3.ro = rosK from rfl, pK2_R]; decide
theorem req_noaf {p : Prb} {i : Int} (h : (itmOf p i).af = []) : req p i = (linL p).flatMap (reqL i) := by
  unfold req reqA; rw [h, sortI_nil]; rfl
theorem pK2_r1 : req pK2 1 = [] := by rw [req_noaf (by decide), pK2_L]; decide
theorem pK2_r2 : req pK2 2 = [] := by rw [req_noaf (by decide), pK2_L]; decide
theorem pK3_r3 : req pK3 3 = [⟨3, 1, rcA⟩] := by rw [req_noaf (by decide), pK3_L]; decide
def smK : Sma := ⟨[1, 2], [0, 0], [[-5, 5], [5, -5]], [0, 0]⟩
theorem pK2_S : smlOf pK2 = smK := by
  unfold smlOf
  have e1 : blOf pK2 1 = 0 := by unfold blOf; rw [pK2_r1]; rfl
  have e2 : blOf pK2 2 = 0 := by unfold blOf; rw [pK2_r2]; rfl
  have e3 : ∀ x, rwOf pK2 x = [dlOf pK2 x 1, dlOf pK2 x 2] := fun x => by unfold rwOf; rw [pK2_sm]; rfl
  have e4 : (linL pK2).map (rwOf pK2) = [[-5, 5], [5, -5]] := by rw [pK2_L]; simp only [List.map_cons, List.map_nil, e3]; decide
  rw [pK2_sm, e4, pK2_L]
  simp only [List.map_cons, List.map_nil, e1, e2]; rfl
theorem smK_n : (allX smK).length = 4 := by decide
theorem smK_f : ((allX smK).filter (feaS smK)).length = 2 := by decide
theorem pK2_b12 : blks pK2 (inL [2, 1]) = [] := by
  unfold blks; rw [pK2_ids]; simp [blk1, pK2_r1, pK2_r2, blkF]
theorem pK2_v12 : viol pK2 (setM [2, 1]) = [] := by unfold viol; rw [pK2_L]; decide
theorem pK2_v1 : viol pK2 (setM [1]) ≠ [] := by unfold viol; rw [pK2_L]; decide
theorem pK3_b3 : blks pK3 (inL [3]) ≠ [] := by
  unfold blks; rw [pK3_ids]; simp [blk1, inL, pK3_r3, blkF]
theorem pK3_v123 : viol pK3 (setM [1, 2, 3]) = [⟨rcA, 1⟩] := by unfold viol; rw [pK3_L]; decide
theorem pK2_c21 : choE pK2 [2, 1] = 0 := by decide
theorem pK2_c1 : choE pK2 [1] = 0 := by decide
theorem pK3_c3 : choE pK3 [3] = 0 := by decide
theorem pK3_c123 : choE pK3 [1, 2, 3] = 0 := by decide
theorem pK2_B : PrbB pK2 := by unfold PrbB; decide
theorem pK3_B : PrbB pK3 := by unfold PrbB; decide
theorem kn_cnt : PCalls Tryz.prog 36 [.d (prbD pK2)] (.tup [intD 4, intD 2, intD 0]) := by
  have h := count_ok pK2 pK2_B pK2_E (by decide) (by decide)
  rw [pK2_S, smK_n, smK_f] at h; exact h
theorem kn_f21 : PCalls Tryz.prog 17 [.d (prbD pK2), .d (.sl none (([2, 1] : List Int).map intD))] (.tup [boolD true, intD 0]) := by
  have h := feasF_p pK2 [2, 1] pK2_B (by decide) (by decide) (by decide)
  rw [pK2_c21, pK2_b12, pK2_v12] at h; exact h
theorem kn_f1 : PCalls Tryz.prog 17 [.d (prbD pK2), .d (.sl none (([1] : List Int).map intD))] (.tup [boolD false, intD 0]) := by
  have h := feasF_p pK2 [1] pK2_B (by decide) (by decide) (by decide)
  rw [pK2_c1, decide_eq_false (fun h => pK2_v1 h.2.2)] at h; exact h
theorem kn_a3 : PCalls Tryz.prog 15 [.d (prbD pK3), .d (.sl none (([3] : List Int).map intD))] (.tup [boolD false, intD 0]) := by
  have h := admF_p pK3 [3] pK3_B (by decide) (by decide) (by decide)
  rw [pK3_c3, decide_eq_false (fun h => pK3_b3 h.2)] at h; exact h
theorem kn_v : PCalls Tryz.prog 24 [.d (prbD pK3), .d (.sl none (([1, 2, 3] : List Int).map intD))] (.tup [.sl none (([⟨rcA, 1⟩] : List Roo).map rooD), intD 0]) := by
  have h := violF_p pK3 [1, 2, 3] pK3_B (by decide)
  rw [pK3_c123, if_pos rfl, pK3_v123] at h; exact h
theorem snap_prb {hp : Hp} {bl : List Nat} {f n k : Nat} {t : TypeId} (p : Prb) (ho : hget hp f 0 = some (.rowD t k (p.it.map itmD))) (hb : memB f bl = true) (hn : n = p.it.length) : Snap hp bl (.agg [.d (.sl none (p.ro.map rooD)), .own f 0 n]) (prbD p) := by
  refine .agg rfl (by simp [D.one]) fun j a c ha hc => ?_
  match j, ha, hc with
  | 0, ha, hc => injection ha with ha; injection hc with hc; subst ha hc; exact .d
  | 1, ha, hc => injection ha with ha; injection hc with hc; subst ha hc; exact .own ho hb (by rw [List.length_map]; omega) (List.take_of_length_le (by rw [List.length_map]; omega))
end Go.Proofs.YtnamabifclidmaaGreat
/- Layer 29: the example of the chapter, walked. -/
namespace Go.Proofs.YtnamabifclidmaaGreat
open Go.RowKit

set_option maxRecDepth 100000 in
theorem known29_p : PCalls Tryz.prog 14 [] (.raw (.bool true)) := by
  have y1 := pay29_p 1 1 5 [65] [66] (by decide) (by decide)
  have y2 := pay29_p 2 2 5 [66] [65] (by decide) (by decide)
  have y3 := pay29_p 3 3 1 [65] [66] (by decide) (by decide)
  refine a_enter Tryz.func14 rfl rfl Tryz.ntmps14 rfl rfl rfl fun F hF => ?_
  refine a_seq ?_
  refine a_region ?_
  refine Pstep.go (st_assign rfl rfl) ?_
  refine o_nil ?_
  refine a_seq ?_
  refine a_region ?_
  refine Pstep.go (st_build zl45 pl45 rfl rfl rfl) ?_
  refine Pstep.go (st_build zl47 pl47 rfl rfl rfl) ?_
  refine Pstep.go (st_build zl45 pl45 rfl rfl rfl) ?_
  refine Pstep.go (st_build zl47 pl47 rfl rfl rfl) ?_
  refine Estep.go (st_alloc 1 zl47 rfl rfl rfl rfl) ?_
  refine Estep.go (st_alloc 2 zl47 rfl rfl rfl rfl) ?_
  refine Estep.go (st_storeP rfl rfl rfl rfl rfl rfl rfl sz47) ?_
  refine Estep.go (st_storeP rfl rfl rfl rfl rfl rfl rfl sz47) ?_
  refine o_nil ?_
  refine a_seq ?_
  refine a_drawn [[], [0], [], [2], [0, 1, 2, 3], [], [5], [5, 6], [0, 1, 2, 3, 4, 5, 6, 7], [], [0, 1, 2, 3, 4, 5, 6, 7, 8, 9]] mixed rfl ?_
  refine dws ?_
  refine d_pure [1] [1] rfl rfl (fun _ => gp_none (st_loadPS rfl rfl rw47 rfl rfl rfl)) ?_
  refine d_pure [19] [] rfl rfl (fun _ => gp_none (st_build zl70 pl70 rfl rfl rfl)) ?_
  refine d_pure [2] [2] rfl rfl (fun _ => gp_none (st_loadPS rfl rfl rw47 rfl rfl rfl)) ?_
  refine d_pure [21] [] rfl rfl (fun _ => gp_none (st_build zl70 pl70 rfl rfl rfl)) ?_
  refine d_eff [20, 22] [10] [(23, _)] rfl rfl (fun _ => ge_none (st_buildSlice 10 sl32 rfl rfl rfl rfl rfl rfl rfl rfl)) (.inr ⟨23, _, rfl, rfl, rfl, rfl, rfl⟩) rfl rfl rfl rfl rfl ?_
  refine d_pure [] [] rfl rfl (fun _ => gp_none (st_callP (y1) rfl rfl)) ?_
  refine d_pure [] [] rfl rfl (fun _ => gp_none (st_callP (y2) rfl rfl)) ?_
  refine d_eff [24, 25] [11] [(26, _)] rfl rfl (fun _ => ge_none (st_buildSlice 11 sl33 rfl rfl rfl rfl rfl rfl rfl rfl)) (.inr ⟨26, _, rfl, rfl, rfl, rfl, rfl⟩) rfl rfl rfl rfl rfl ?_
  refine d_pure [23, 26] [] rfl rfl (fun _ => gp_none (st_build zl35 pl35 rfl rfl rfl)) ?_
  refine d_eff [] [5] [(3, _)] rfl rfl (fun _ => ge_none (st_alloc 5 zl35 rfl rfl rfl rfl)) (.inr ⟨3, _, rfl, rfl, rfl, rfl, rfl⟩) rfl rfl rfl rfl rfl ?_
  refine dwc 10 rfl rfl rfl ?_
  refine dw1 11 rfl rfl ?_
  refine Estep.go (st_storeP rfl rfl rfl rfl rfl rfl rfl sz35) ?_
  refine o_nil ⟨rfl, ?_⟩
  refine dwe ?_
  refine a_seq ?_
  refine a_freezeC (ys := rosK.map rooD) 5 0 0 10 rfl rfl rfl (by decide) rfl rfl rfl rfl rfl rfl rfl ?_
  refine a_region ?_
  refine Pstep.go (st_loadPS rfl rfl rw35 rfl rfl rfl) ?_
  refine Pstep.go (st_callPB [11] kn_cnt (by exact ⟨.inr ⟨_, _, rfl, snap_prb pK2 rfl rfl rfl, rfl⟩, trivial⟩) rfl rfl) ?_
  refine Pstep.go (st_move rfl rfl) ?_
  refine Pstep.go (st_extractD rfl rfl rfl) ?_
  refine Pstep.go (st_extractD rfl rfl rfl) ?_
  refine Pstep.go (st_extractD rfl rfl rfl) ?_
  refine Pstep.go (st_assign rfl rfl) ?_
  refine Pstep.go (st_assign rfl rfl) ?_
  refine Pstep.go (st_assign rfl rfl) ?_
  refine o_nil ?_
  refine a_seq ?_
  refine a_region ?_
  refine Pstep.go (st_loadPS rfl rfl rw35 rfl rfl rfl) ?_
  refine Estep.go (st_buildSlice 12 sl26 rfl rfl rfl rfl rfl rfl rfl rfl) ?_
  refine o_freezeM (emb := intD) 36 12 [2, 1] rfl rfl rfl rfl rfl rfl rfl ?_
  refine Pstep.go (st_callPB [11] kn_f21 (by exact ⟨.inr ⟨_, _, rfl, snap_prb pK2 rfl rfl rfl, rfl⟩, .inl rfl, trivial⟩) rfl rfl) ?_
  refine Pstep.go (st_move rfl rfl) ?_
  refine Pstep.go (st_extractD rfl rfl rfl) ?_
  refine Pstep.go (st_extractD rfl rfl rfl) ?_
  refine Pstep.go (st_assign rfl rfl) ?_
  refine Pstep.go (st_assign rfl rfl) ?_
  refine o_nil ?_
  refine a_seq ?_
  refine a_region ?_
  refine Pstep.go (st_loadPS rfl rfl rw35 rfl rfl rfl) ?_
  refine Estep.go (st_buildSlice 13 sl26 rfl rfl rfl rfl rfl rfl rfl rfl) ?_
  refine o_freezeM (emb := intD) 42 13 [1] rfl rfl rfl rfl rfl rfl rfl ?_
  refine Pstep.go (st_callPB [11] kn_f1 (by exact ⟨.inr ⟨_, _, rfl, snap_prb pK2 rfl rfl rfl, rfl⟩, .inl rfl, trivial⟩) rfl rfl) ?_
  refine Pstep.go (st_move rfl rfl) ?_
  refine Pstep.go (st_extractD rfl rfl rfl) ?_
  refine Pstep.go (st_extractD rfl rfl rfl) ?_
  refine Pstep.go (st_assign rfl rfl) ?_
  refine Pstep.go (st_assign rfl rfl) ?_
  refine o_nil ?_
  refine a_seq ?_
  refine a_drawn [[], [0], [], [2], [0, 1, 2, 3], [0, 1, 2, 3, 4], [0, 1, 2, 3, 4, 5]] mixed rfl ?_
  refine dws ?_
  refine d_pure [3] [] rfl rfl (fun _ => gp_none (st_fieldP rfl fi35_1 rfl rfl rfl)) ?_
  refine d_pure [46] [5, 11] rfl rfl (fun _ => gp_none (st_loadP rfl rfl rfl on33 rfl)) ?_
  refine d_pure [] [] rfl rfl (fun _ => gp_none (st_callP (y3) rfl rfl)) ?_
  refine d_eff [48] [14] [(49, _)] rfl rfl (fun _ => ge_none (st_buildSlice 14 sl33 rfl rfl rfl rfl rfl rfl rfl rfl)) (.inr ⟨49, _, rfl, rfl, rfl, rfl, rfl⟩) rfl rfl rfl rfl rfl ?_
  refine dwc 4 rfl rfl rfl ?_
  refine dw1 5 rfl rfl ?_
  refine Estep.go (st_appM (itsK) ([itK3]) rfl rfl rfl rfl rfl rfl rfl rfl sl33 (by decide) rfl rfl rfl rfl) ?_
  refine o_nil ⟨rfl, ?_⟩
  refine dw1 6 rfl rfl ?_
  refine Pstep.go (st_fieldP rfl fi35_1 rfl rfl rfl) ?_
  refine o_nil ⟨rfl, ?_⟩
  refine dw1 7 rfl rfl ?_
  refine Estep.go (st_storeP rfl rfl rfl rfl rfl rfl rfl sz33) ?_
  refine o_nil ⟨rfl, ?_⟩
  refine dwe ?_
  refine a_seq ?_
  refine a_region ?_
  refine Pstep.go (st_loadPS rfl rfl rw35 rfl rfl rfl) ?_
  refine Estep.go (st_buildSlice 15 sl26 rfl rfl rfl rfl rfl rfl rfl rfl) ?_
  refine o_freezeM (emb := intD) 54 15 [3] rfl rfl rfl rfl rfl rfl rfl ?_
  refine Pstep.go (st_callPB [11] kn_a3 (by exact ⟨.inr ⟨_, _, rfl, snap_prb pK3 rfl rfl rfl, rfl⟩, .inl rfl, trivial⟩) rfl rfl) ?_
  refine Pstep.go (st_move rfl rfl) ?_
  refine Pstep.go (st_extractD rfl rfl rfl) ?_
  refine Pstep.go (st_extractD rfl rfl rfl) ?_
  refine Pstep.go (st_assign rfl rfl) ?_
  refine Pstep.go (st_assign rfl rfl) ?_
  refine o_nil ?_
  refine a_seq ?_
  refine a_freezeC (ys := (itsK ++ [itK3]).map itmD) 5 0 1 11 rfl rfl rfl (by decide) rfl rfl rfl rfl rfl rfl rfl ?_
  refine a_region ?_
  refine Pstep.go (st_loadPS rfl rfl rw35 rfl rfl rfl) ?_
  refine Estep.go (st_buildSlice 16 sl26 rfl rfl rfl rfl rfl rfl rfl rfl) ?_
  refine o_freezeM (emb := intD) 60 16 [1, 2, 3] rfl rfl rfl rfl rfl rfl rfl ?_
  refine Pstep.go (st_callP (kn_v) rfl rfl) ?_
  refine Pstep.go (st_move rfl rfl) ?_
  refine Pstep.go (st_extractD rfl rfl rfl) ?_
  refine Pstep.go (st_extractD rfl rfl rfl) ?_
  refine Pstep.go (st_assign rfl rfl) ?_
  refine Pstep.go (st_assign rfl rfl) ?_
  refine o_nil ?_
  refine a_seq ?_
  refine a_drawn [[], [0], [0, 1], [0, 1, 2], [0, 1, 2, 3], [0, 1, 2, 3, 4], [0, 1, 2, 3, 4, 5], [0, 1, 2, 3, 4, 5, 6], [0, 1, 2, 3, 4, 5, 6, 7], [0, 1, 2, 3, 4, 5, 6, 7, 8], [0, 1, 2, 3, 4, 5, 6, 7, 8, 9], [0, 1, 2, 3, 4, 5, 6, 7, 8, 9, 10], [0, 1, 2, 3, 4, 5, 6, 7, 8, 9, 10, 11], [0, 1, 2, 3, 4, 5, 6, 7, 8, 9, 10, 11, 12], [0, 1, 2, 3, 4, 5, 6, 7, 8, 9, 10, 11, 12, 13], [0, 1, 2, 3, 4, 5, 6, 7, 8, 9, 10, 11, 12, 13, 14], [0, 1, 2, 3, 4, 5, 6, 7, 8, 9, 10, 11, 12, 13, 14, 15], [0, 1, 2, 3, 4, 5, 6, 7, 8, 9, 10, 11, 12, 13, 14, 15, 16], [0, 1, 2, 3, 4, 5, 6, 7, 8, 9, 10, 11, 12, 13, 14, 15, 16, 17], [0, 1, 2, 3, 4, 5, 6, 7, 8, 9, 10, 11, 12, 13, 14, 15, 16, 17, 18], [0, 1, 2, 3, 4, 5, 6, 7, 8, 9, 10, 11, 12, 13, 14, 15, 16, 17, 18, 19], [0, 1, 2, 3, 4, 5, 6, 7, 8, 9, 10, 11, 12, 13, 14, 15, 16, 17, 18, 19, 20], [0, 1, 2, 3, 4, 5, 6, 7, 8, 9, 10, 11, 12, 13, 14, 15, 16, 17, 18, 19, 20, 21], [0, 1, 2, 3, 4, 5, 6, 7, 8, 9, 10, 11, 12, 13, 14, 15, 16, 17, 18, 19, 20, 21, 22], [0, 1, 2, 3, 4, 5, 6, 7, 8, 9, 10, 11, 12, 13, 14, 15, 16, 17, 18, 19, 20, 21, 22, 23], [0, 1, 2, 3, 4, 5, 6, 7, 8, 9, 10, 11, 12, 13, 14, 15, 16, 17, 18, 19, 20, 21, 22, 23, 24], [0, 1, 2, 3, 4, 5, 6, 7, 8, 9, 10, 11, 12, 13, 14, 15, 16, 17, 18, 19, 20, 21, 22, 23, 24, 25], [0, 1, 2, 3, 4, 5, 6, 7, 8, 9, 10, 11, 12, 13, 14, 15, 16, 17, 18, 19, 20, 21, 22, 23, 24, 25, 26], [0, 1, 2, 3, 4, 5, 6, 7, 8, 9, 10, 11, 12, 13, 14, 15, 16, 17, 18, 19, 20, 21, 22, 23, 24, 25, 26, 27], [0, 1, 2, 3, 4, 5, 6, 7, 8, 9, 10, 11, 12, 13, 14, 15, 16, 17, 18, 19, 20, 21, 22, 23, 24, 25, 26, 27, 28], [0, 1, 2, 3, 4, 5, 6, 7, 8, 9, 10, 11, 12, 13, 14, 15, 16, 17, 18, 19, 20, 21, 22, 23, 24, 25, 26, 27, 28, 29], [0, 1, 2, 3, 4, 5, 6, 7, 8, 9, 10, 11, 12, 13, 14, 15, 16, 17, 18, 19, 20, 21, 22, 23, 24, 25, 26, 27, 28, 29, 30], [0, 1, 2, 3, 4, 5, 6, 7, 8, 9, 10, 11, 12, 13, 14, 15, 16, 17, 18, 19, 20, 21, 22, 23, 24, 25, 26, 27, 28, 29, 30, 31], [0, 1, 2, 3, 4, 5, 6, 7, 8, 9, 10, 11, 12, 13, 14, 15, 16, 17, 18, 19, 20, 21, 22, 23, 24, 25, 26, 27, 28, 29, 30, 31, 32], [0, 1, 2, 3, 4, 5, 6, 7, 8, 9, 10, 11, 12, 13, 14, 15, 16, 17, 18, 19, 20, 21, 22, 23, 24, 25, 26, 27, 28, 29, 30, 31, 32, 33], [0, 1, 2, 3, 4, 5, 6, 7, 8, 9, 10, 11, 12, 13, 14, 15, 16, 17, 18, 19, 20, 21, 22, 23, 24, 25, 26, 27, 28, 29, 30, 31, 32, 33, 34], [0, 1, 2, 3, 4, 5, 6, 7, 8, 9, 10, 11, 12, 13, 14, 15, 16, 17, 18, 19, 20, 21, 22, 23, 24, 25, 26, 27, 28, 29, 30, 31, 32, 33, 34, 35], [0, 1, 2, 3, 4, 5, 6, 7, 8, 9, 10, 11, 12, 13, 14, 15, 16, 17, 18, 19, 20, 21, 22, 23, 24, 25, 26, 27, 28, 29, 30, 31, 32, 33, 34, 35, 36], [0, 1, 2, 3, 4, 5, 6, 7, 8, 9, 10, 11, 12, 13, 14, 15, 16, 17, 18, 19, 20, 21, 22, 23, 24, 25, 26, 27, 28, 29, 30, 31, 32, 33, 34, 35, 36, 37], [0, 1, 2, 3, 4, 5, 6, 7, 8, 9, 10, 11, 12, 13, 14, 15, 16, 17, 18, 19, 20, 21, 22, 23, 24, 25, 26, 27, 28, 29, 30, 31, 32, 33, 34, 35, 36, 37, 38], [0, 1, 2, 3, 4, 5, 6, 7, 8, 9, 10, 11, 12, 13, 14, 15, 16, 17, 18, 19, 20, 21, 22, 23, 24, 25, 26, 27, 28, 29, 30, 31, 32, 33, 34, 35, 36, 37, 38, 39], [0, 1, 2, 3, 4, 5, 6, 7, 8, 9, 10, 11, 12, 13, 14, 15, 16, 17, 18, 19, 20, 21, 22, 23, 24, 25, 26, 27, 28, 29, 30, 31, 32, 33, 34, 35, 36, 37, 38, 39, 40], [0, 1, 2, 3, 4, 5, 6, 7, 8, 9, 10, 11, 12, 13, 14, 15, 16, 17, 18, 19, 20, 21, 22, 23, 24, 25, 26, 27, 28, 29, 30, 31, 32, 33, 34, 35, 36, 37, 38, 39, 40, 41], [0, 1, 2, 3, 4, 5, 6, 7, 8, 9, 10, 11, 12, 13, 14, 15, 16, 17, 18, 19, 20, 21, 22, 23, 24, 25, 26, 27, 28, 29, 30, 31, 32, 33, 34, 35, 36, 37, 38, 39, 40, 41, 42], [0, 1, 2, 3, 4, 5, 6, 7, 8, 9, 10, 11, 12, 13, 14, 15, 16, 17, 18, 19, 20, 21, 22, 23, 24, 25, 26, 27, 28, 29, 30, 31, 32, 33, 34, 35, 36, 37, 38, 39, 40, 41, 42, 43], [0, 1, 2, 3, 4, 5, 6, 7, 8, 9, 10, 11, 12, 13, 14, 15, 16, 17, 18, 19, 20, 21, 22, 23, 24, 25, 26, 27, 28, 29, 30, 31, 32, 33, 34, 35, 36, 37, 38, 39, 40, 41, 42, 43, 44], [0, 1, 2, 3, 4, 5, 6, 7, 8, 9, 10, 11, 12, 13, 14, 15, 16, 17, 18, 19, 20, 21, 22, 23, 24, 25, 26, 27, 28, 29, 30, 31, 32, 33, 34, 35, 36, 37, 38, 39, 40, 41, 42], [0, 1, 2, 3, 4, 5, 6, 7, 8, 9, 10, 11, 12, 13, 14, 15, 16, 17, 18, 19, 20, 21, 22, 23, 24, 25, 26, 27, 28, 29, 30, 31, 32, 33, 34, 35, 36, 37, 38, 39, 40, 41, 42, 46], [0, 1, 2, 3, 4, 5, 6, 7, 8, 9, 10, 11, 12, 13, 14, 15, 16, 17, 18, 19, 20, 21, 22, 23, 24, 25, 26, 27, 28, 29, 30, 31, 32, 33, 34, 35, 36, 37, 38, 39, 40, 41, 42, 43, 44, 45, 46, 47], [0, 1, 2, 3, 4, 5, 6, 7, 8, 9, 10, 11, 12, 13, 14, 15, 16, 17, 18, 19, 20, 21, 22, 23, 24, 25, 26, 27, 28, 29, 30, 31, 32, 33, 34, 35, 36, 37, 38, 39, 40, 41, 42, 43, 44, 45, 46, 47, 48], [0, 1, 2, 3, 4, 5, 6, 7, 8, 9, 10, 11, 12, 13, 14, 15, 16, 17, 18, 19, 20, 21, 22, 23, 24, 25, 26, 27, 28, 29, 30, 31, 32, 33, 34, 35, 36, 37, 38, 39, 40, 41, 42, 43, 44, 45, 46, 47, 48, 49]] mixed rfl ?_
  refine dw1 1 rfl rfl ?_
  refine Pstep.go (st_move rfl rfl) ?_
  refine o_nil ⟨rfl, ?_⟩
  refine dw1 2 rfl rfl ?_
  refine Pstep.go (st_eql rfl rfl rfl) ?_
  refine o_nil ⟨rfl, ?_⟩
  refine dw1 3 rfl rfl ?_
  refine Pstep.go (st_move rfl rfl) ?_
  refine o_setT 66 rfl (rfl) ?_
  refine o_nil ⟨rfl, ?_⟩
  refine dw1 4 rfl rfl ?_
  refine o_run rfl rfl rfl ?_
  refine Pstep.go (st_move rfl rfl) ?_
  refine o_nil ⟨rfl, ?_⟩
  refine dw1 5 rfl rfl ?_
  refine o_run rfl rfl rfl ?_
  refine Pstep.go (st_eql rfl rfl rfl) ?_
  refine o_nil ⟨rfl, ?_⟩
  refine dw1 6 rfl rfl ?_
  refine Pstep.go (st_pickT rfl rfl rfl rfl) ?_
  refine o_nil ⟨rfl, ?_⟩
  refine dw1 7 rfl rfl ?_
  refine Pstep.go (st_move rfl rfl) ?_
  refine o_setT 70 rfl (rfl) ?_
  refine o_nil ⟨rfl, ?_⟩
  refine dw1 8 rfl rfl ?_
  refine o_run rfl rfl rfl ?_
  refine Pstep.go (st_move rfl rfl) ?_
  refine o_nil ⟨rfl, ?_⟩
  refine dw1 9 rfl rfl ?_
  refine o_run rfl rfl rfl ?_
  refine Pstep.go (st_eql rfl rfl rfl) ?_
  refine o_nil ⟨rfl, ?_⟩
  refine dw1 10 rfl rfl ?_
  refine Pstep.go (st_pickT rfl rfl rfl rfl) ?_
  refine o_nil ⟨rfl, ?_⟩
  refine dw1 11 rfl rfl ?_
  refine Pstep.go (st_move rfl rfl) ?_
  refine o_setT 74 rfl (rfl) ?_
  refine o_nil ⟨rfl, ?_⟩
  refine dw1 12 rfl rfl ?_
  refine o_run rfl rfl rfl ?_
  refine Pstep.go (st_move rfl rfl) ?_
  refine o_nil ⟨rfl, ?_⟩
  refine dw1 13 rfl rfl ?_
  refine Pstep.go (st_pickT rfl rfl rfl rfl) ?_
  refine o_nil ⟨rfl, ?_⟩
  refine dw1 14 rfl rfl ?_
  refine Pstep.go (st_move rfl rfl) ?_
  refine o_setT 77 rfl (rfl) ?_
  refine o_nil ⟨rfl, ?_⟩
  refine dw1 15 rfl rfl ?_
  refine o_run rfl rfl rfl ?_
  refine Pstep.go (st_move rfl rfl) ?_
  refine o_nil ⟨rfl, ?_⟩
  refine dw1 16 rfl rfl ?_
  refine o_run rfl rfl rfl ?_
  refine Pstep.go (st_eql rfl rfl rfl) ?_
  refine o_nil ⟨rfl, ?_⟩
  refine dw1 17 rfl rfl ?_
  refine Pstep.go (st_pickT rfl rfl rfl rfl) ?_
  refine o_nil ⟨rfl, ?_⟩
  refine dw1 18 rfl rfl ?_
  refine Pstep.go (st_move rfl rfl) ?_
  refine o_setT 81 rfl (rfl) ?_
  refine o_nil ⟨rfl, ?_⟩
  refine dw1 19 rfl rfl ?_
  refine o_run rfl rfl rfl ?_
  refine Pstep.go (st_move rfl rfl) ?_
  refine o_nil ⟨rfl, ?_⟩
  refine dw1 20 rfl rfl ?_
  refine o_run rfl rfl rfl ?_
  refine Pstep.go (st_not rfl rfl) ?_
  refine o_nil ⟨rfl, ?_⟩
  refine dw1 21 rfl rfl ?_
  refine Pstep.go (st_pickT rfl rfl rfl rfl) ?_
  refine o_nil ⟨rfl, ?_⟩
  refine dw1 22 rfl rfl ?_
  refine Pstep.go (st_move rfl rfl) ?_
  refine o_setT 85 rfl (rfl) ?_
  refine o_nil ⟨rfl, ?_⟩
  refine dw1 23 rfl rfl ?_
  refine o_run rfl rfl rfl ?_
  refine Pstep.go (st_move rfl rfl) ?_
  refine o_nil ⟨rfl, ?_⟩
  refine dw1 24 rfl rfl ?_
  refine o_run rfl rfl rfl ?_
  refine Pstep.go (st_eql rfl rfl rfl) ?_
  refine o_nil ⟨rfl, ?_⟩
  refine dw1 25 rfl rfl ?_
  refine Pstep.go (st_pickT rfl rfl rfl rfl) ?_
  refine o_nil ⟨rfl, ?_⟩
  refine dw1 26 rfl rfl ?_
  refine Pstep.go (st_move rfl rfl) ?_
  refine o_setT 89 rfl (rfl) ?_
  refine o_nil ⟨rfl, ?_⟩
  refine dw1 27 rfl rfl ?_
  refine o_run rfl rfl rfl ?_
  refine Pstep.go (st_move rfl rfl) ?_
  refine o_nil ⟨rfl, ?_⟩
  refine dw1 28 rfl rfl ?_
  refine o_run rfl rfl rfl ?_
  refine Pstep.go (st_not rfl rfl) ?_
  refine o_nil ⟨rfl, ?_⟩
  refine dw1 29 rfl rfl ?_
  refine Pstep.go (st_pickT rfl rfl rfl rfl) ?_
  refine o_nil ⟨rfl, ?_⟩
  refine dw1 30 rfl rfl ?_
  refine Pstep.go (st_move rfl rfl) ?_
  refine o_setT 93 rfl (rfl) ?_
  refine o_nil ⟨rfl, ?_⟩
  refine dw1 31 rfl rfl ?_
  refine o_run rfl rfl rfl ?_
  refine Pstep.go (st_move rfl rfl) ?_
  refine o_nil ⟨rfl, ?_⟩
  refine dw1 32 rfl rfl ?_
  refine o_run rfl rfl rfl ?_
  refine Pstep.go (st_eql rfl rfl rfl) ?_
  refine o_nil ⟨rfl, ?_⟩
  refine dw1 33 rfl rfl ?_
  refine Pstep.go (st_pickT rfl rfl rfl rfl) ?_
  refine o_nil ⟨rfl, ?_⟩
  refine dw1 34 rfl rfl ?_
  refine Pstep.go (st_move rfl rfl) ?_
  refine o_setT 97 rfl (rfl) ?_
  refine o_nil ⟨rfl, ?_⟩
  refine dw1 35 rfl rfl ?_
  refine o_run rfl rfl rfl ?_
  refine Pstep.go (st_move rfl rfl) ?_
  refine o_nil ⟨rfl, ?_⟩
  refine dw1 36 rfl rfl ?_
  refine o_run rfl rfl rfl ?_
  refine Pstep.go (st_eql rfl rfl rfl) ?_
  refine o_nil ⟨rfl, ?_⟩
  refine dw1 37 rfl rfl ?_
  refine Pstep.go (st_pickT rfl rfl rfl rfl) ?_
  refine o_nil ⟨rfl, ?_⟩
  refine dw1 38 rfl rfl ?_
  refine Pstep.go (st_move rfl rfl) ?_
  refine o_setT 101 rfl (rfl) ?_
  refine o_nil ⟨rfl, ?_⟩
  refine dw1 39 rfl rfl ?_
  refine o_run rfl rfl rfl ?_
  refine Pstep.go (st_move rfl rfl) ?_
  refine o_nil ⟨rfl, ?_⟩
  refine dw1 40 rfl rfl ?_
  refine o_run rfl rfl rfl ?_
  refine Pstep.go (st_lenMap rfl Tryz.underlying56 rfl) ?_
  refine o_nil ⟨rfl, ?_⟩
  refine dw1 41 rfl rfl ?_
  refine o_run rfl rfl rfl ?_
  refine Pstep.go (st_eql rfl rfl rfl) ?_
  refine o_nil ⟨rfl, ?_⟩
  refine dw1 42 rfl rfl ?_
  refine Pstep.go (st_pickT rfl rfl rfl rfl) ?_
  refine o_nil ⟨rfl, ?_⟩
  refine dw1 43 rfl rfl ?_
  refine Pstep.go (st_move rfl rfl) ?_
  refine o_setT 106 rfl (rfl) ?_
  refine o_nil ⟨rfl, ?_⟩
  refine dws ?_
  refine d_pure [13, 106] [] rfl rfl (fun _ => gp_run rfl rfl rfl (st_move rfl rfl)) ?_
  refine d_pure [107, 106] [] rfl rfl (fun _ => gp_run rfl rfl rfl (st_indexD (0) rfl rfl (rfl) (rfl) Tryz.underlying56 rfl sz62 rfl)) ?_
  refine d_pure [108, 106] [] rfl rfl (fun _ => gp_run rfl rfl rfl (st_loadDS rfl rfl rw62 rfl)) ?_
  refine d_pure [1, 106] [1] rfl rfl (fun _ => gp_run rfl rfl rfl (st_loadPS rfl rfl rw47 rfl rfl rfl)) ?_
  refine d_pure [110, 106] [] rfl rfl (fun _ => gp_run rfl rfl rfl (st_build zl62 pl62 rfl rfl rfl)) ?_
  refine dwc 48 rfl rfl rfl ?_
  refine dw1 49 rfl rfl ?_
  refine o_run rfl rfl rfl ?_
  refine Pstep.go (st_eqlSt (la := rooC ⟨rcA, 1⟩) (lb := rooC ⟨rcA, 1⟩) (ds := rooT) (by kernel_rfl) (by kernel_rfl) (by kernel_rfl) rfl rfl rfl rfl (roo_plain _) (roo_plain _) (roo_eqC _ _) rfl) ?_
  refine o_nil ⟨rfl, ?_⟩
  refine dw1 50 rfl rfl ?_
  refine Pstep.go (st_pickT rfl rfl rfl rfl) ?_
  refine o_nil ⟨rfl, ?_⟩
  refine dw1 51 rfl rfl ?_
  refine Pstep.go (st_assign rfl rfl) ?_
  refine o_nil ⟨rfl, ?_⟩
  refine dwe ?_
  refine a_ret ?_
  exact ⟨_, [], [], res_of rfl, rfl, rfl, by simp, rfl⟩
end Go.Proofs.YtnamabifclidmaaGreat
/- Layer 29: the law of admissible and feasible sets. -/
namespace Go.Proofs.YtnamabifclidmaaGreat
open Go.RowKit

theorem sml_V {p : Prb} (h : Sml p) (hE : prbE p = 0) : PV p := ⟨hE, sml_B h, by have := h.1; omega, by have := h.2.1; omega, fun i hi => by have := h.2.2 i hi; omega⟩
theorem cho_in {p : Prb} {l : List Int} (h : choE p l = 0) : ∀ x ∈ l, x ∈ p.it.map Itm.id := by
  have hp := choE_prb h
  unfold choE at h
  rw [if_neg (by omega)] at h
  unfold setE at h
  intro x hx
  obtain ⟨k, hk, rfl⟩ := List.mem_iff_getElem.1 hx
  have h0 := fst0_all h _ (List.mem_map.2 ⟨k, List.mem_range.2 hk, rfl⟩)
  unfold chErr at h0
  rw [getD_at 0 hk] at h0
  by_cases hn : l[k] ∈ p.it.map Itm.id
  · exact hn
  · rw [if_pos hn] at h0; cases h0
set_option maxRecDepth 100000 in
theorem lawF1_p (p : Prb) (l : List Int) : PCalls Tryz.prog 3 [.d (prbD p), .d (.sl none (l.map intD))] (.raw (.bool true)) := by
  have hk := known29_p
  have hs := small_p p
  by_cases hf : Sml p
  · rw [decide_eq_true hf] at hs
    have c1 := own_p p hf
    have g1 := hf.1
    have g2 := hf.2.1
    have g3 := hf.2.2
    by_cases hl : l.length ≤ 20
    · have c2 := admF_p p l (sml_B hf) (by omega) (by omega) (by omega)
      have c3 := feasF_p p l (sml_B hf) (by omega) (by omega) (by omega)
      have c4 := check29_p p l (by omega) (by omega) (fun i hi => by have := g3 i hi; omega) (by omega)
      by_cases h0 : choE p l = 0
      · have c5 := adm29_p p l (sml_V hf (choE_prb h0)) (by omega)
        have c6 := feas29_p p l (sml_V hf (choE_prb h0)) (by omega) (cho_in h0)
        rw [h0] at c2 c3 c4
        refine a_enter Tryz.func3 rfl rfl Tryz.ntmps3 rfl rfl rfl fun F hF => ?_
        refine a_seq ?_
        refine a_region ?_
        refine Estep.go (st_box 1 rfl rfl rfl rfl rfl rfl rfl) ?_
        refine Pstep.go (st_assign rfl rfl) ?_
        refine o_nil ?_
        refine a_seq ?_
        refine a_seq ?_
        refine a_region ?_
        refine Pstep.go (st_loadPS rfl rfl rw25 rfl rfl rfl) ?_
        refine Pstep.go (st_callP (hs) rfl rfl) ?_
        refine Pstep.go (st_not rfl rfl) ?_
        refine Pstep.go (st_move rfl rfl) ?_
        refine o_setF 13 rfl (rfl) ?_
        refine o_run rfl rfl rfl ?_
        refine Pstep.go (st_move rfl rfl) ?_
        refine o_run rfl rfl rfl ?_
        refine Pstep.go (st_lenMap rfl Tryz.underlying26 rfl) ?_
        refine o_run rfl rfl rfl ?_
        refine Pstep.go (st_gtr rfl rfl rfl) ?_
        refine Pstep.go (st_pickF rfl rfl rfl rfl) ?_
        refine o_nil ?_
        refine a_false rfl ((decide_eq_false (by omega))) ?_
        refine a_skip ?_
        refine a_seq ?_
        refine a_region ?_
        refine Pstep.go (st_loadPS rfl rfl rw25 rfl rfl rfl) ?_
        refine Pstep.go (st_callP (c1) rfl rfl) ?_
        refine Pstep.go (st_move rfl rfl) ?_
        refine Pstep.go (st_callP (c2) rfl rfl) ?_
        refine Pstep.go (st_move rfl rfl) ?_
        refine Pstep.go (st_extractD rfl rfl rfl) ?_
        refine Pstep.go (st_extractD rfl rfl rfl) ?_
        refine Pstep.go (st_assign rfl rfl) ?_
        refine Pstep.go (st_assign rfl rfl) ?_
        refine o_nil ?_
        refine a_seq ?_
        refine a_region ?_
        refine Pstep.go (st_loadPS rfl rfl rw25 rfl rfl rfl) ?_
        refine Pstep.go (st_callP (c1) rfl rfl) ?_
        refine Pstep.go (st_move rfl rfl) ?_
        refine Pstep.go (st_callP (c3) rfl rfl) ?_
        refine Pstep.go (st_move rfl rfl) ?_
        refine Pstep.go (st_extractD rfl rfl rfl) ?_
        refine Pstep.go (st_extractD rfl rfl rfl) ?_
        refine Pstep.go (st_assign rfl rfl) ?_
        refine Pstep.go (st_assign rfl rfl) ?_
        refine o_nil ?_
        refine a_seq ?_
        refine a_region ?_
        refine Pstep.go (st_loadPS rfl rfl rw25 rfl rfl rfl) ?_
        refine Pstep.go (st_move rfl rfl) ?_
        refine Pstep.go (st_callP (c4) rfl rfl) ?_
        refine Pstep.go (st_assign rfl rfl) ?_
        refine o_nil ?_
        refine a_seq ?_
        refine a_seq ?_
        refine a_region ?_
        refine Pstep.go (st_move rfl rfl) ?_
        refine Pstep.go (st_move rfl rfl) ?_
        refine Pstep.go (st_neq rfl rfl rfl) ?_
        refine Pstep.go (st_move rfl rfl) ?_
        refine o_setF 39 rfl (rfl) ?_
        refine o_run rfl rfl rfl ?_
        refine Pstep.go (st_move rfl rfl) ?_
        refine o_run rfl rfl rfl ?_
        refine Pstep.go (st_move rfl rfl) ?_
        refine o_run rfl rfl rfl ?_
        refine Pstep.go (st_neq rfl rfl rfl) ?_
        refine Pstep.go (st_pickF rfl rfl rfl rfl) ?_
        refine o_nil ?_
        refine a_false rfl (rfl) ?_
        refine a_skip ?_
        refine a_seq ?_
        refine a_seq ?_
        refine a_region ?_
        refine Pstep.go (st_move rfl rfl) ?_
        refine Pstep.go (st_neq rfl rfl rfl) ?_
        refine o_nil ?_
        refine a_false rfl (rfl) ?_
        refine a_skip ?_
        refine a_seq ?_
        refine a_region ?_
        refine Pstep.go (st_callP (hk) rfl rfl) ?_
        refine Pstep.go (st_move rfl rfl) ?_
        refine o_setT 56 rfl (rfl) ?_
        refine o_run rfl rfl rfl ?_
        refine Pstep.go (st_move rfl rfl) ?_
        refine o_run rfl rfl rfl ?_
        refine Pstep.go (st_loadPS rfl rfl rw25 rfl rfl rfl) ?_
        refine o_run rfl rfl rfl ?_
        refine Pstep.go (st_move rfl rfl) ?_
        refine o_run rfl rfl rfl ?_
        refine Pstep.go (st_callP (c5) rfl rfl) ?_
        refine o_run rfl rfl rfl ?_
        refine Pstep.go (st_eqlB Tryz.underlying4 rfl rfl rfl) ?_
        refine Pstep.go (st_pickT rfl rfl rfl rfl) ?_
        refine Pstep.go (st_move rfl rfl) ?_
        refine o_setT 63 rfl ((by simp)) ?_
        refine o_run rfl rfl rfl ?_
        refine Pstep.go (st_move rfl rfl) ?_
        refine o_run rfl rfl rfl ?_
        refine Pstep.go (st_loadPS rfl rfl rw25 rfl rfl rfl) ?_
        refine o_run rfl rfl rfl ?_
        refine Pstep.go (st_move rfl rfl) ?_
        refine o_run rfl rfl rfl ?_
        refine Pstep.go (st_callP (c6) rfl rfl) ?_
        refine o_run rfl rfl rfl ?_
        refine Pstep.go (st_eqlB Tryz.underlying4 rfl rfl rfl) ?_
        refine Pstep.go (st_pickT rfl rfl rfl rfl) ?_
        refine Pstep.go (st_assign rfl rfl) ?_
        refine o_nil ?_
        refine a_ret ?_
        exact ⟨_, [], [], res_of rfl, rfl, rfl, by simp, rfl⟩
      · rw [decide_eq_false (fun h => h0 h.1)] at c2 c3
        refine a_enter Tryz.func3 rfl rfl Tryz.ntmps3 rfl rfl rfl fun F hF => ?_
        refine a_seq ?_
        refine a_region ?_
        refine Estep.go (st_box 1 rfl rfl rfl rfl rfl rfl rfl) ?_
        refine Pstep.go (st_assign rfl rfl) ?_
        refine o_nil ?_
        refine a_seq ?_
        refine a_seq ?_
        refine a_region ?_
        refine Pstep.go (st_loadPS rfl rfl rw25 rfl rfl rfl) ?_
        refine Pstep.go (st_callP (hs) rfl rfl) ?_
        refine Pstep.go (st_not rfl rfl) ?_
        refine Pstep.go (st_move rfl rfl) ?_
        refine o_setF 13 rfl (rfl) ?_
        refine o_run rfl rfl rfl ?_
        refine Pstep.go (st_move rfl rfl) ?_
        refine o_run rfl rfl rfl ?_
        refine Pstep.go (st_lenMap rfl Tryz.underlying26 rfl) ?_
        refine o_run rfl rfl rfl ?_
        refine Pstep.go (st_gtr rfl rfl rfl) ?_
        refine Pstep.go (st_pickF rfl rfl rfl rfl) ?_
        refine o_nil ?_
        refine a_false rfl ((decide_eq_false (by omega))) ?_
        refine a_skip ?_
        refine a_seq ?_
        refine a_region ?_
        refine Pstep.go (st_loadPS rfl rfl rw25 rfl rfl rfl) ?_
        refine Pstep.go (st_callP (c1) rfl rfl) ?_
        refine Pstep.go (st_move rfl rfl) ?_
        refine Pstep.go (st_callP (c2) rfl rfl) ?_
        refine Pstep.go (st_move rfl rfl) ?_
        refine Pstep.go (st_extractD rfl rfl rfl) ?_
        refine Pstep.go (st_extractD rfl rfl rfl) ?_
        refine Pstep.go (st_assign rfl rfl) ?_
        refine Pstep.go (st_assign rfl rfl) ?_
        refine o_nil ?_
        refine a_seq ?_
        refine a_region ?_
        refine Pstep.go (st_loadPS rfl rfl rw25 rfl rfl rfl) ?_
        refine Pstep.go (st_callP (c1) rfl rfl) ?_
        refine Pstep.go (st_move rfl rfl) ?_
        refine Pstep.go (st_callP (c3) rfl rfl) ?_
        refine Pstep.go (st_move rfl rfl) ?_
        refine Pstep.go (st_extractD rfl rfl rfl) ?_
        refine Pstep.go (st_extractD rfl rfl rfl) ?_
        refine Pstep.go (st_assign rfl rfl) ?_
        refine Pstep.go (st_assign rfl rfl) ?_
        refine o_nil ?_
        refine a_seq ?_
        refine a_region ?_
        refine Pstep.go (st_loadPS rfl rfl rw25 rfl rfl rfl) ?_
        refine Pstep.go (st_move rfl rfl) ?_
        refine Pstep.go (st_callP (c4) rfl rfl) ?_
        refine Pstep.go (st_assign rfl rfl) ?_
        refine o_nil ?_
        refine a_seq ?_
        refine a_seq ?_
        refine a_region ?_
        refine Pstep.go (st_move rfl rfl) ?_
        refine Pstep.go (st_move rfl rfl) ?_
        refine Pstep.go (st_neq rfl rfl rfl) ?_
        refine Pstep.go (st_move rfl rfl) ?_
        refine o_setF 39 rfl ((by simp)) ?_
        refine o_run rfl rfl rfl ?_
        refine Pstep.go (st_move rfl rfl) ?_
        refine o_run rfl rfl rfl ?_
        refine Pstep.go (st_move rfl rfl) ?_
        refine o_run rfl rfl rfl ?_
        refine Pstep.go (st_neq rfl rfl rfl) ?_
        refine Pstep.go (st_pickF rfl rfl rfl rfl) ?_
        refine o_nil ?_
        refine a_false rfl ((by simp)) ?_
        refine a_skip ?_
        refine a_seq ?_
        refine a_seq ?_
        refine a_region ?_
        refine Pstep.go (st_move rfl rfl) ?_
        refine Pstep.go (st_neq rfl rfl rfl) ?_
        refine o_nil ?_
        refine a_true rfl ((decide_eq_true h0)) ?_
        refine a_seq ?_
        refine a_region ?_
        refine Pstep.go (st_callP (hk) rfl rfl) ?_
        refine Pstep.go (st_move rfl rfl) ?_
        refine o_setT 47 rfl (rfl) ?_
        refine o_run rfl rfl rfl ?_
        refine Pstep.go (st_move rfl rfl) ?_
        refine o_run rfl rfl rfl ?_
        refine Pstep.go (st_not rfl rfl) ?_
        refine Pstep.go (st_pickT rfl rfl rfl rfl) ?_
        refine Pstep.go (st_move rfl rfl) ?_
        refine o_setT 51 rfl (rfl) ?_
        refine o_run rfl rfl rfl ?_
        refine Pstep.go (st_move rfl rfl) ?_
        refine o_run rfl rfl rfl ?_
        refine Pstep.go (st_not rfl rfl) ?_
        refine Pstep.go (st_pickT rfl rfl rfl rfl) ?_
        refine Pstep.go (st_assign rfl rfl) ?_
        refine o_nil ?_
        refine a_ret ?_
        exact ⟨_, [], [], res_of rfl, rfl, rfl, rfl, rfl⟩
    · have hll : ¬ l.length ≤ 20 := hl
      refine a_enter Tryz.func3 rfl rfl Tryz.ntmps3 rfl rfl rfl fun F hF => ?_
      refine a_seq ?_
      refine a_region ?_
      refine Estep.go (st_box 1 rfl rfl rfl rfl rfl rfl rfl) ?_
      refine Pstep.go (st_assign rfl rfl) ?_
      refine o_nil ?_
      refine a_seq ?_
      refine a_seq ?_
      refine a_region ?_
      refine Pstep.go (st_loadPS rfl rfl rw25 rfl rfl rfl) ?_
      refine Pstep.go (st_callP (hs) rfl rfl) ?_
      refine Pstep.go (st_not rfl rfl) ?_
      refine Pstep.go (st_move rfl rfl) ?_
      refine o_setF 13 rfl (rfl) ?_
      refine o_run rfl rfl rfl ?_
      refine Pstep.go (st_move rfl rfl) ?_
      refine o_run rfl rfl rfl ?_
      refine Pstep.go (st_lenMap rfl Tryz.underlying26 rfl) ?_
      refine o_run rfl rfl rfl ?_
      refine Pstep.go (st_gtr rfl rfl rfl) ?_
      refine Pstep.go (st_pickF rfl rfl rfl rfl) ?_
      refine o_nil ?_
      refine a_true rfl ((decide_eq_true (by omega))) ?_
      refine a_seq ?_
      refine a_region ?_
      refine Pstep.go (st_callP (hk) rfl rfl) ?_
      refine Pstep.go (st_assign rfl rfl) ?_
      refine o_nil ?_
      refine a_ret ?_
      exact ⟨_, [], [], res_of rfl, rfl, rfl, rfl, rfl⟩
  · rw [decide_eq_false hf] at hs
    refine a_enter Tryz.func3 rfl rfl Tryz.ntmps3 rfl rfl rfl fun F hF => ?_
    refine a_seq ?_
    refine a_region ?_
    refine Estep.go (st_box 1 rfl rfl rfl rfl rfl rfl rfl) ?_
    refine Pstep.go (st_assign rfl rfl) ?_
    refine o_nil ?_
    refine a_seq ?_
    refine a_seq ?_
    refine a_region ?_
    refine Pstep.go (st_loadPS rfl rfl rw25 rfl rfl rfl) ?_
    refine Pstep.go (st_callP (hs) rfl rfl) ?_
    refine Pstep.go (st_not rfl rfl) ?_
    refine Pstep.go (st_move rfl rfl) ?_
    refine o_setT 13 rfl (rfl) ?_
    refine o_pass rfl rfl rfl rfl ?_
    refine o_pass rfl rfl rfl rfl ?_
    refine o_pass rfl rfl rfl rfl ?_
    refine Pstep.go (st_pickT rfl rfl rfl rfl) ?_
    refine o_nil ?_
    refine a_true rfl rfl ?_
    refine a_seq ?_
    refine a_region ?_
    refine Pstep.go (st_callP (hk) rfl rfl) ?_
    refine Pstep.go (st_assign rfl rfl) ?_
    refine o_nil ?_
    refine a_ret ?_
    exact ⟨_, [], [], res_of rfl, rfl, rfl, rfl, rfl⟩
end Go.Proofs.YtnamabifclidmaaGreat
/- Layer 28: how the laws' arguments are opened. -/
namespace Go.Proofs.YtnamabifclidmaaGreat
open Go.ChangeShapes Go.WideShapes Go.ChangeAt Go.RowKit

section
variable {H : Type} {enc : TypeId × Value → H} {w : World}
abbrev tt {α : Type} : α → Prop := fun _ => True
theorem oI : OpenT enc Tryz.prog w 3 1 intD tt := (openI64 Tryz.underlying3).asQ id (fun _ _ => rfl) (fun _ _ => trivial)
theorem oJ : OpenT enc Tryz.prog w 2 1 intD tt := (openI64 Tryz.underlying2).asQ id (fun _ _ => rfl) (fun _ _ => trivial)
theorem oS : OpenT enc Tryz.prog w 9 1 strD tt := (openStrL Tryz.underlying9).asQ id (fun _ _ => rfl) (fun _ _ => trivial)
theorem oIs : OpenT enc Tryz.prog w 26 1 (fun l : List Int => .sl none (l.map intD)) tt := (openSl Tryz.underlying26 (by kernel_rfl) (by omega) (b := 8) (by kernel_rfl) oI).asQ id (fun _ _ => rfl) (fun _ _ => trivial)
theorem oAcc : OpenT enc Tryz.prog w 50 3 accD tt :=
  (openSt Tryz.underlying50 (by kernel_rfl) (openFc rfl (by kernel_rfl) oS (openFc rfl (by kernel_rfl) oI (openFc rfl (by kernel_rfl) oS openF0)))).asQ (fun a => (⟨a.1, a.2.1, a.2.2.1⟩ : Acc)) (fun _ _ => rfl) (fun _ _ => trivial)
theorem oPost : OpenT enc Tryz.prog w 144 4 postD tt :=
  (openSt Tryz.underlying144 (by kernel_rfl) (openFc rfl (by kernel_rfl) oAcc (openFc rfl (by kernel_rfl) oJ openF0))).asQ (fun a => (⟨a.1, a.2.1⟩ : Post)) (fun _ _ => rfl) (fun _ _ => trivial)
theorem oPay : OpenT enc Tryz.prog w 147 3 payD tt :=
  (openSt Tryz.underlying147 (by kernel_rfl) (openFc rfl (by kernel_rfl) oS (openFc rfl (by kernel_rfl) oS (openFc rfl (by kernel_rfl) oJ openF0)))).asQ (fun a => (⟨a.1, a.2.1, a.2.2.1⟩ : Pay)) (fun _ _ => rfl) (fun _ _ => trivial)
theorem oRsc : OpenT enc Tryz.prog w 52 6 rscD tt :=
  (openSt Tryz.underlying52 (by kernel_rfl) (openFc rfl (by kernel_rfl) oI (openFc rfl (by kernel_rfl) oAcc (openFc rfl (by kernel_rfl) oS (openFc rfl (by kernel_rfl) oS openF0))))).asQ (fun a => (⟨a.1, a.2.1, a.2.2.1, a.2.2.2.1⟩ : Rsc)) (fun _ _ => rfl) (fun _ _ => trivial)
theorem oItm : OpenT enc Tryz.prog w 80 6 itmD tt :=
  (openSt Tryz.underlying80 (by kernel_rfl) (openFc rfl (by kernel_rfl) oI (openFc rfl (by kernel_rfl) oI (openFc rfl (by kernel_rfl) oI
    (openFc rfl (by kernel_rfl) (openSl Tryz.underlying77 (by kernel_rfl) (by omega) (b := 48) (by kernel_rfl) oPost)
    (openFc rfl (by kernel_rfl) (openSl Tryz.underlying78 (by kernel_rfl) (by omega) (b := 40) (by kernel_rfl) oPay) (openFc rfl (by kernel_rfl) oIs openF0))))))).asQ
    (fun a => (⟨a.1, a.2.1, a.2.2.1, a.2.2.2.1, a.2.2.2.2.1, a.2.2.2.2.2.1⟩ : Itm)) (fun _ _ => rfl) (fun _ _ => trivial)
theorem oRoo : OpenT enc Tryz.prog w 104 7 rooD tt :=
  (openSt Tryz.underlying104 (by kernel_rfl) (openFc rfl (by kernel_rfl) oRsc (openFc rfl (by kernel_rfl) oJ openF0))).asQ (fun a => (⟨a.1, a.2.1⟩ : Roo)) (fun _ _ => rfl) (fun _ _ => trivial)
theorem oPrb : OpenT enc Tryz.prog w 25 2 prbD tt :=
  (openSt Tryz.underlying25 (by kernel_rfl) (openFc rfl (by kernel_rfl) (openSl Tryz.underlying22 (by kernel_rfl) (by omega) (b := 88) (by kernel_rfl) oRoo) (openFc rfl (by kernel_rfl) (openSl Tryz.underlying23 (by kernel_rfl) (by omega) (b := 96) (by kernel_rfl) oItm) openF0))).asQ
    (fun a => (⟨a.1, a.2.1⟩ : Prb)) (fun _ _ => rfl) (fun _ _ => trivial)
end
end Go.Proofs.YtnamabifclidmaaGreat
/- 'girolaw29.FeasibleAdmissible': for every input the law returns true, and each argument reads behind the call as it read before. No condition. -/
namespace Go.Proofs.YtnamabifclidmaaGreat
open Go.ChangeShapes Go.WideShapes Go.ChangeAt Go.RowKit

set_option maxRecDepth 100000 in
theorem feasibleAdmissible_lifted (os : Os) (started : os.Started) (H : Type) (enc : TypeId × Value → H) :
    ReturnsInHanded {} Tryz.checked os 3 .any (Rows.feasibleAdmissibleSpec.pre6 enc Tryz.prog Tryz.f3 Rows.feasibleAdmissibleRow.domain false) (Rows.feasibleAdmissibleSpec.post enc Tryz.prog Tryz.f3 false true false false) := by
  refine returnsInHanded_of_change_sized (C := Tryz.checked) Tryz.own started (by kernel_rfl) Tryz.func3
    (ChangeSpec.witness6 (enc := enc) (C := Tryz.checked) false ⟨#[], #[.agg #[.slice none 0 0, .slice none 0 0], .slice none 0 0], []⟩ 8 (by kernel_rfl) (by kernel_rfl) (by kernel_rfl) (by kernel_rfl)) ?_
  intro W base args ds gs before hval0 hW _ hwt _
  have hW' := hW
  obtain ⟨p, q, hA0, hV, rfl, _, _⟩ := hW
  have hlt : ∀ x ∈ p ++ q, x.block < W.heap.size := fun x hx => hW'.lt x hx
  have hA : DataW.TrodAll enc Tryz.prog W 0 (fun _ => true) true Tryz.f3.params.toList args.toList ds p := hA0
  rw [Tryz.params3] at hA
  obtain ⟨v0, v1, d0, d1, p0, p1, rfl, rfl, rfl, h0, h1⟩ := trodAll_two hA
  obtain ⟨rfl, rfl⟩ := trodVars_none hV
  have hwz : ∀ n ∈ DataW.weightsEach Tryz.prog ([25, 26] : List TypeId) ([d0, d1]), n ≤ reachBytes := fun n hn => of_decide_eq_true (List.all_eq_true.1 hwt n (by rw [Tryz.params3]; exact hn))
  have hval : ∀ (j : Nat) t v, Tryz.f3.params[j]? = some t → (#[v0, v1] : Array Value)[j]? = some v → Value.okWide Tryz.prog W .any base t v := hval0
  rw [Tryz.params3] at hval
  obtain ⟨n0, g0⟩ := h0
  obtain ⟨cs0, rfl, _⟩ := okWide_struct Tryz.underlying25 (hval 0 25 v0 rfl rfl)
  obtain ⟨a0, q0, _, r0⟩ := (oPrb) _ _ _ g0 (fun x hx => hlt x (by simp [hx])) (fun n hn => hwz n (DataW.weights_mem_each (j := 0) (t := 25) rfl rfl n hn))
  obtain ⟨n1, g1⟩ := h1
  have hv1 : v1.oneCell' = true := by obtain ⟨_, _, _, e⟩ := okWide_slice Tryz.underlying26 (hval 1 26 v1 rfl rfl); rw [e]; rfl
  obtain ⟨a1, q1, _, r1⟩ := (openSl Tryz.underlying26 (by kernel_rfl) (by omega) (b := 8) (by kernel_rfl) (openInt Tryz.underlying3)) _ _ _ g1 (fun x hx => hlt x (by simp [hx])) (fun n hn => hwz n (DataW.weights_mem_each (j := 1) (t := 26) rfl rfl n hn))
  refine (law_calls (lawF1_p a0 a1) (vs := [.agg cs0, v1]) rfl (fun i a v ha hv => ?_)).mono fun e W' ⟨he, hb⟩ => ?_
  · rcases i with _ | _ | i
    · simp at ha hv; subst ha hv; exact RepC.argS rfl r0
    · simp at ha hv; subst ha hv; exact RepC.arg1 rfl rfl hv1 r1
    · simp at ha
  subst he
  exact ⟨_, rfl, law_post (tb := 4) Tryz.laidOut (by kernel_rfl) rfl rfl Tryz.underlying4 hW' ⟨rfl, rfl, rfl⟩ hb⟩

theorem feasibleAdmissible_holds : Rows.FeasibleAdmissibleSaid :=
  OpenClaim.holds_of_wide 3 Tryz.f3 rfl rfl rfl rfl rfl rfl rfl ⟨rfl, rfl, rfl, rfl, rfl⟩ rfl rfl rfl rfl rfl (by kernel_rfl) Tryz.func3 (by kernel_rfl)
    (of_decide_eq_true (by kernel_rfl)) (by unfold Func.isWrapper; first | (rw [if_pos (by decide +kernel)]; kernel_rfl) | (rw [if_neg (by decide +kernel)]; exact ⟨rfl, rfl⟩))
    (fun os started H enc _ => feasibleAdmissible_lifted os started H enc)
#print axioms feasibleAdmissible_holds

end Go.Proofs.YtnamabifclidmaaGreat
