/- Layer 28: the reference's order of items; conversion back. -/
import Derived.Test.YtfmpiabmnjmobaaRes6
namespace Go.Proofs.Ytfmpiabmnjmobaa
open Go.RowKit

def insO : List Itm → Itm → List Itm
  | [], x => [x]
  | a :: l, x => if ∀ y ∈ a :: l, ordI x y < 0 then x :: a :: l else a :: insO l x
theorem insO_at : ∀ {l : List Itm} {x : Itm} {k : Nat}, k ≤ l.length → (∀ y ∈ l.drop k, ordI x y < 0) → (∀ (h : 0 < k) y, l[k - 1]? = some y → ¬ ordI x y < 0) → insO l x = (l.take k ++ [x]) ++ l.drop k
  | [], x, 0, _, _, _ => rfl
  | [], x, k + 1, h, _, _ => by simp at h
  | a :: l, x, 0, _, h, _ => by simp only [insO]; rw [if_pos (by simpa using h)]; rfl
  | a :: l, x, k + 1, hk, h, h2 => by
    have hk' : k ≤ l.length := by simpa using hk
    have hl : k < (a :: l).length := Nat.lt_succ_of_le hk'
    have hn : ¬ ∀ y ∈ a :: l, ordI x y < 0 := fun hall => h2 (by omega) _ (List.getElem?_eq_getElem hl) (hall _ (List.getElem_mem hl))
    simp only [insO]
    rw [if_neg hn, insO_at (k := k) hk' (by simpa using h) fun h0 y hy => h2 (by omega) y (by
      obtain ⟨m, rfl⟩ : ∃ m, k = m + 1 := ⟨k - 1, by omega⟩
      simpa using hy)]
    simp
def sortO (l : List Itm) : List Itm := l.foldl insO []
theorem insO_len (l : List Itm) (x : Itm) : (insO l x).length = l.length + 1 := by
  induction l with
  | nil => rfl
  | cons a l ih =>
    simp only [insO]; split
    · rfl
    · simp only [List.length_cons, ih]
theorem sortO_snoc (l : List Itm) (x : Itm) : sortO (l ++ [x]) = insO (sortO l) x := by simp [sortO]
theorem sortO_len (l : List Itm) : (sortO l).length = l.length := by
  induction l using snoc_ind with
  | h0 => rfl
  | h1 l x ih => rw [sortO_snoc, insO_len, ih]; simp
set_option maxRecDepth 100000 in
theorem refsorted_p (l : List Itm) (hl : l.length ≤ 1000) : PCalls Try.prog 37 [.d (.sl none (l.map itmD))] (.sl none ((sortO l).map itmD)) := by
  refine a_enter Try.func37 rfl rfl Try.ntmps37 rfl rfl rfl fun F hF => ?_
  refine a_seq ?_
  refine a_region ?_
  refine Pstep.go (st_assign rfl rfl) ?_
  refine o_nil ?_
  refine a_seq ?_
  refine a_region ?_
  refine Pstep.go (st_assign rfl rfl) ?_
  refine o_nil ?_
  refine a_seq ?_
  refine a_seq ?_
  refine a_anyNil 3 rfl ?_
  refine a_region ?_
  refine Pstep.go (st_assign rfl rfl) ?_
  refine o_nil ?_
  refine a_block ?_
  refine a_loopP (α := Nat × List Itm) (fun q => ⟨49, [(0, .d (.sl none (l.map itmD))), (3, (.d (.sl none (q.2.map itmD)))), (4, (.d (intD (q.1 : Int))))], []⟩) (fun q => q.1 ≤ l.length ∧ q.2 = sortO (l.take q.1)) (fun q => l.length - q.1) ((0, [])) (⟨Nat.zero_le _, rfl⟩) (lep_of hF [] rfl rfl ⟨rfl, rfl, rfl, trivial⟩) ?_
  rintro ⟨k, out⟩ ⟨hk0, hO⟩
  dsimp only at hk0 hO ⊢
  refine a_seq ?_
  refine a_seq ?_
  refine a_region ?_
  refine Pstep.go (st_move rfl rfl) ?_
  refine Pstep.go (st_move rfl rfl) ?_
  refine Pstep.go (st_lenMap rfl Try.underlying65 rfl) ?_
  refine Pstep.go (st_lss rfl rfl rfl) ?_
  refine o_nil ?_
  refine a_if rfl (fun h10 => ?_) (fun h10 => ?_)
  · have hk1 : k < l.length := lt_cast h10
    refine a_skip ?_
    refine a_seq ?_
    refine a_block ?_
    refine a_seq ?_
    have hol : out.length ≤ 1000 := by rw [hO, sortO_len, List.length_take]; omega
    refine a_region ?_
    refine Pstep.go (st_move rfl rfl) ?_
    refine Pstep.go (st_lenMap rfl Try.underlying65 rfl) ?_
    refine Pstep.go (st_assign rfl rfl) ?_
    refine o_nil ?_
    refine a_seq ?_
    refine a_block ?_
    refine a_loopP (α := Nat) (fun m => ⟨49, [(0, .d (.sl none (l.map itmD))), (3, (.d (.sl none (out.map itmD)))), (4, (.d (intD (k : Int)))), (5, (.d (intD (m : Int))))], []⟩) (fun m => m ≤ out.length ∧ ∀ y ∈ out.drop m, ordI l[k] y < 0) (fun m => m) (out.length) (⟨Nat.le_refl _, by simp⟩) (lep_of hF [] rfl rfl ⟨rfl, rfl, rfl, rfl, trivial⟩) ?_
    rintro m ⟨hm0, hm⟩
    refine a_seq ?_
    refine a_seq ?_
    refine a_drawn [[], [0], [0, 1], [0, 1, 2], [0, 1, 2], [0, 1, 2, 3, 4], [0, 1, 2, 3, 4, 5], [0, 1, 2], [0, 1, 2], [0, 1, 2, 8], [0, 1, 2, 7, 8, 9], [0, 1, 2, 7, 8, 9, 10], [0, 1, 2, 3, 4, 5, 6, 7, 8, 9, 10, 11], [0, 1, 2, 3, 4, 5, 6, 7, 8, 9, 10, 11, 12]] mixed rfl ?_
    refine dw1 1 rfl rfl ?_
    refine Pstep.go (st_move rfl rfl) ?_
    refine o_nil ⟨rfl, ?_⟩
    refine dw1 2 rfl rfl ?_
    refine Pstep.go (st_gtr rfl rfl rfl) ?_
    refine o_nil ⟨rfl, ?_⟩
    refine dw1 3 rfl rfl ?_
    refine Pstep.go (st_move rfl rfl) ?_
    refine o_splitP 17 rfl (fun h17 => ?_) (fun h17 => ?_)
    · refine o_nil ⟨rfl, ?_⟩
      refine dws ?_
      try have hm1 : m - 1 < out.length := by have h := h17; omega
      refine d_pure [0, 17] [] rfl rfl (fun _ => gp_run rfl rfl rfl (st_move rfl rfl)) ?_
      refine d_pure [4, 17] [] rfl rfl (fun _ => gp_run rfl rfl rfl (st_move rfl rfl)) ?_
      refine d_pure [18, 19, 17] [] rfl rfl (fun _ => gp_run rfl rfl rfl (st_indexD (k) rfl rfl (rfl) (getm hk1) Try.underlying65 rfl sz26 rfl)) ?_
      refine d_pure [20, 17] [] rfl rfl (fun _ => gp_run rfl rfl rfl (st_loadDS rfl rfl rw26 rfl)) ?_
      refine d_pure [3, 17] [] rfl rfl (fun _ => gp_run rfl rfl rfl (st_move rfl rfl)) ?_
      refine d_pure [5, 17] [] rfl rfl (fun _ => gp_run rfl rfl rfl (st_move rfl rfl)) ?_
      refine d_pure [23, 17] [] rfl rfl (fun _ => gp_run rfl rfl rfl (st_sub rfl rfl (show IntKind.i64.wrap ((m : Int) - 1) = ((m - 1 : Nat) : Int) from by rw [show ((m - 1 : Nat) : Int) = (m : Int) - 1 by omega]; exact IntWalk.i64_in _ (by omega)) rfl)) ?_
      refine d_pure [22, 24, 17] [] rfl rfl (fun _ => gp_run rfl rfl rfl (st_indexD (m - 1) rfl rfl (rfl) (getm hm1) Try.underlying65 rfl sz26 rfl)) ?_
      refine d_pure [25, 17] [] rfl rfl (fun _ => gp_run rfl rfl rfl (st_loadDS rfl rfl rw26 rfl)) ?_
      refine dwc 12 rfl rfl rfl ?_
      refine dw1 13 rfl rfl ?_
      refine o_run rfl rfl rfl ?_
      refine Pstep.go (st_callP (refbefore_p l[k] out[m - 1]) rfl rfl) ?_
      refine o_nil ⟨rfl, ?_⟩
      refine dw1 14 rfl rfl ?_
      refine Pstep.go (st_pickT rfl rfl rfl rfl) ?_
      refine o_nil ⟨rfl, ?_⟩
      refine dwe ?_
      refine a_if rfl (fun h28 => ?_) (fun h28 => ?_)
      · refine a_skip ?_
        refine a_block ?_
        refine a_region ?_
        refine Pstep.go (st_move rfl rfl) ?_
        refine Pstep.go (st_sub rfl rfl (show IntKind.i64.wrap ((m : Int) - 1) = ((m - 1 : Nat) : Int) from by rw [show ((m - 1 : Nat) : Int) = (m : Int) - 1 by omega]; exact IntWalk.i64_in _ (by omega)) rfl) ?_
        refine Pstep.go (st_assign rfl rfl) ?_
        refine o_nil ?_
        exact ⟨m - 1, ⟨by show m - 1 ≤ _; omega, by rw [List.drop_eq_getElem_cons hm1]; intro y hy; rcases List.mem_cons.1 hy with hy | hy; rw [hy]; exact h28; exact hm y (by rw [show m - 1 + 1 = m by omega] at hy; exact hy)⟩, by show m - 1 < m; omega, lep_of hF [] rfl (rfl) ⟨rfl, rfl, rfl, rfl, trivial⟩⟩
      · refine a_exit ?_
        refine a_seq ?_
        have hstop : ∀ (h : 0 < m) y, out[m - 1]? = some y → ¬ ordI l[k] y < 0 := by first | (intro h y hy; exact absurd h (by omega)) | (intro h y hy; rw [List.getElem?_eq_getElem hm1] at hy; injection hy with hy; rw [← hy]; exact h28)
        refine a_region ?_
        refine Estep.go (st_buildSlice 20 sl65 rfl rfl rfl rfl rfl rfl rfl rfl) ?_
        refine Pstep.go (st_move rfl rfl) ?_
        refine Pstep.go (st_move rfl rfl) ?_
        refine Pstep.go (st_sliceHiM (out) (m) rfl rfl rfl (rfl) (by omega) Try.underlying65 sz26 (fun _ => rfl) rfl) ?_
        refine Estep.go (st_appMD (([] : List Itm)) (out.take m) rfl rfl rfl rfl rfl rfl (fun _ => rfl) sl65 (by simp only [List.length_nil, List.length_take]; omega) rfl rfl rfl rfl) ?_
        refine Pstep.go (st_assign rfl rfl) ?_
        refine o_nil ?_
        refine a_seq ?_
        refine a_region ?_
        refine Pstep.go (st_move rfl rfl) ?_
        refine Pstep.go (st_move rfl rfl) ?_
        refine Pstep.go (st_move rfl rfl) ?_
        refine Pstep.go (st_indexD (k) rfl rfl (rfl) (getm hk1) Try.underlying65 rfl sz26 rfl) ?_
        refine Pstep.go (st_loadDS rfl rfl rw26 rfl) ?_
        refine Estep.go (st_buildSlice 21 sl65 rfl rfl rfl rfl rfl rfl rfl rfl) ?_
        refine Estep.go (st_appM (([] ++ out.take m)) ([l[k]]) rfl rfl rfl rfl rfl rfl rfl rfl sl65 (by simp only [List.nil_append, List.length_singleton, List.length_take]; omega) rfl rfl rfl rfl) ?_
        refine Pstep.go (st_assign rfl rfl) ?_
        refine o_nil ?_
        refine a_region ?_
        refine Pstep.go (st_move rfl rfl) ?_
        refine Pstep.go (st_move rfl rfl) ?_
        refine Pstep.go (st_move rfl rfl) ?_
        refine Pstep.go (st_sliceLoM (out) (m) rfl rfl rfl (rfl) (by omega) Try.underlying65 sz26 (fun _ => rfl) rfl) ?_
        refine Estep.go (st_appMD ((([] ++ out.take m) ++ [l[k]])) (out.drop m) rfl rfl rfl rfl rfl rfl (fun _ => rfl) sl65 (by simp only [List.nil_append, List.length_append, List.length_singleton, List.length_take, List.length_drop]; omega) rfl rfl rfl rfl) ?_
        refine o_freezeM (emb := itmD) 47 20 ((([] ++ out.take m) ++ [l[k]]) ++ out.drop m) rfl rfl rfl rfl rfl rfl rfl ?_
        refine Pstep.go (st_assign rfl rfl) ?_
        refine o_nil ?_
        refine a_region ?_
        refine Pstep.go (st_move rfl rfl) ?_
        refine Pstep.go (st_add rfl rfl (wrapS (k + 1) (by omega)) rfl) ?_
        refine Pstep.go (st_assign rfl rfl) ?_
        refine o_nil ?_
        exact ⟨(k + 1, _), ⟨by show k + 1 ≤ _; omega, by show _ = sortO (l.take (k + 1)); rw [List.take_succ_eq_append_getElem hk1, sortO_snoc, ← hO, insO_at hm0 hm hstop]; rfl⟩, by show l.length - (k + 1) < l.length - k; omega, lep_of hF [] rfl (rfl) ⟨rfl, rfl, rfl, trivial⟩⟩
    · refine o_nil ⟨rfl, ?_⟩
      refine dws ?_
      try have hm1 : m - 1 < out.length := by have h := h17; omega
      refine d_pure [0, 17] [] rfl rfl (fun _ => gp_pass rfl rfl rfl rfl) ?_
      refine d_pure [4, 17] [] rfl rfl (fun _ => gp_pass rfl rfl rfl rfl) ?_
      refine d_pure [18, 19, 17] [] rfl rfl (fun _ => gp_pass rfl rfl rfl rfl) ?_
      refine d_pure [20, 17] [] rfl rfl (fun _ => gp_pass rfl rfl rfl rfl) ?_
      refine d_pure [3, 17] [] rfl rfl (fun _ => gp_pass rfl rfl rfl rfl) ?_
      refine d_pure [5, 17] [] rfl rfl (fun _ => gp_pass rfl rfl rfl rfl) ?_
      refine d_pure [23, 17] [] rfl rfl (fun _ => gp_pass rfl rfl rfl rfl) ?_
      refine d_pure [22, 24, 17] [] rfl rfl (fun _ => gp_pass rfl rfl rfl rfl) ?_
      refine d_pure [25, 17] [] rfl rfl (fun _ => gp_pass rfl rfl rfl rfl) ?_
      refine dwc 12 rfl rfl rfl ?_
      refine dw1 13 rfl rfl ?_
      refine o_pass rfl rfl rfl rfl ?_
      refine o_nil ⟨rfl, ?_⟩
      refine dw1 14 rfl rfl ?_
      refine Pstep.go (st_pickF rfl rfl rfl rfl) ?_
      refine o_nil ⟨rfl, ?_⟩
      refine dwe ?_
      refine a_false rfl rfl ?_
      refine a_exit ?_
      refine a_seq ?_
      have hstop : ∀ (h : 0 < m) y, out[m - 1]? = some y → ¬ ordI l[k] y < 0 := by first | (intro h y hy; exact absurd h (by omega)) | (intro h y hy; rw [List.getElem?_eq_getElem hm1] at hy; injection hy with hy; rw [← hy]; exact h28)
      refine a_region ?_
      refine Estep.go (st_buildSlice 20 sl65 rfl rfl rfl rfl rfl rfl rfl rfl) ?_
      refine Pstep.go (st_move rfl rfl) ?_
      refine Pstep.go (st_move rfl rfl) ?_
      refine Pstep.go (st_sliceHiM (out) (m) rfl rfl rfl (rfl) (by omega) Try.underlying65 sz26 (fun _ => rfl) rfl) ?_
      refine Estep.go (st_appMD (([] : List Itm)) (out.take m) rfl rfl rfl rfl rfl rfl (fun _ => rfl) sl65 (by simp only [List.length_nil, List.length_take]; omega) rfl rfl rfl rfl) ?_
      refine Pstep.go (st_assign rfl rfl) ?_
      refine o_nil ?_
      refine a_seq ?_
      refine a_region ?_
      refine Pstep.go (st_move rfl rfl) ?_
      refine Pstep.go (st_move rfl rfl) ?_
      refine Pstep.go (st_move rfl rfl) ?_
      refine Pstep.go (st_indexD (k) rfl rfl (rfl) (getm hk1) Try.underlying65 rfl sz26 rfl) ?_
      refine Pstep.go (st_loadDS rfl rfl rw26 rfl) ?_
      refine Estep.go (st_buildSlice 21 sl65 rfl rfl rfl rfl rfl rfl rfl rfl) ?_
      refine Estep.go (st_appM (([] ++ out.take m)) ([l[k]]) rfl rfl rfl rfl rfl rfl rfl rfl sl65 (by simp only [List.nil_append, List.length_singleton, List.length_take]; omega) rfl rfl rfl rfl) ?_
      refine Pstep.go (st_assign rfl rfl) ?_
      refine o_nil ?_
      refine a_region ?_
      refine Pstep.go (st_move rfl rfl) ?_
      refine Pstep.go (st_move rfl rfl) ?_
      refine Pstep.go (st_move rfl rfl) ?_
      refine Pstep.go (st_sliceLoM (out) (m) rfl rfl rfl (rfl) (by omega) Try.underlying65 sz26 (fun _ => rfl) rfl) ?_
      refine Estep.go (st_appMD ((([] ++ out.take m) ++ [l[k]])) (out.drop m) rfl rfl rfl rfl rfl rfl (fun _ => rfl) sl65 (by simp only [List.nil_append, List.length_append, List.length_singleton, List.length_take, List.length_drop]; omega) rfl rfl rfl rfl) ?_
      refine o_freezeM (emb := itmD) 47 20 ((([] ++ out.take m) ++ [l[k]]) ++ out.drop m) rfl rfl rfl rfl rfl rfl rfl ?_
      refine Pstep.go (st_assign rfl rfl) ?_
      refine o_nil ?_
      refine a_region ?_
      refine Pstep.go (st_move rfl rfl) ?_
      refine Pstep.go (st_add rfl rfl (wrapS (k + 1) (by omega)) rfl) ?_
      refine Pstep.go (st_assign rfl rfl) ?_
      refine o_nil ?_
      exact ⟨(k + 1, _), ⟨by show k + 1 ≤ _; omega, by show _ = sortO (l.take (k + 1)); rw [List.take_succ_eq_append_getElem hk1, sortO_snoc, ← hO, insO_at hm0 hm hstop]; rfl⟩, by show l.length - (k + 1) < l.length - k; omega, lep_of hF [] rfl (rfl) ⟨rfl, rfl, rfl, trivial⟩⟩
  · refine a_exit ?_
    refine a_seq ?_
    refine a_region ?_
    refine Pstep.go (st_move rfl rfl) ?_
    refine Pstep.go (st_assign rfl rfl) ?_
    refine o_nil ?_
    refine a_ret ?_
    exact ⟨_, [], [], res_of rfl, rfl, rfl, by rw [hO, List.take_of_length_le (by have h := h10; omega)], rfl⟩
set_option maxRecDepth 100000 in
theorem ints_p (a b : List Int) (hl : a.length ≤ 100000) : PCalls Try.prog 39 [.d (.sl none (a.map intD)), .d (.sl none (b.map intD))] (boolD (decide (a = b))) := by
  refine a_enter Try.func39 rfl rfl Try.ntmps39 rfl rfl rfl fun F hF => ?_
  refine a_seq ?_
  refine a_region ?_
  refine Pstep.go (st_assign rfl rfl) ?_
  refine o_nil ?_
  refine a_seq ?_
  refine a_seq ?_
  refine a_region ?_
  refine Pstep.go (st_move rfl rfl) ?_
  refine Pstep.go (st_lenMap rfl Try.underlying24 rfl) ?_
  refine Pstep.go (st_move rfl rfl) ?_
  refine Pstep.go (st_lenMap rfl Try.underlying24 rfl) ?_
  refine Pstep.go (st_neq rfl rfl rfl) ?_
  refine o_nil ?_
  refine a_if rfl (fun h10 => ?_) (fun h10 => ?_)
  · refine a_seq ?_
    refine a_region ?_
    refine Pstep.go (st_assign rfl rfl) ?_
    refine o_nil ?_
    refine a_ret ?_
    exact ⟨_, [], [], res_of rfl, rfl, rfl, retF (fun h => h10 (by rw [h])), rfl⟩
  · refine a_skip ?_
    refine a_seq ?_
    refine a_seq ?_
    have hlen : a.length = b.length := by omega
    refine a_region ?_
    refine Pstep.go (st_assign rfl rfl) ?_
    refine o_nil ?_
    refine a_block ?_
    refine a_loop (α := Nat) (fun k => ⟨26, [(0, .d (.sl none (a.map intD))), (1, .d (.sl none (b.map intD))), (5, (.d (intD (k : Int))))], []⟩) (fun k => k ≤ a.length ∧ a.take k = b.take k) (fun k => a.length - k) (0) (⟨Nat.zero_le _, by simp⟩) (le_of_has ⟨rfl, rfl, rfl, trivial⟩) ?_
    rintro k ⟨hk0, hk⟩
    refine a_seq ?_
    refine a_seq ?_
    refine a_region ?_
    refine Pstep.go (st_move rfl rfl) ?_
    refine Pstep.go (st_move rfl rfl) ?_
    refine Pstep.go (st_lenMap rfl Try.underlying24 rfl) ?_
    refine Pstep.go (st_lss rfl rfl rfl) ?_
    refine o_nil ?_
    refine a_if rfl (fun h14 => ?_) (fun h14 => ?_)
    · have hk1 : k < a.length := lt_cast h14
      refine a_skip ?_
      refine a_seq ?_
      refine a_block ?_
      refine a_seq ?_
      refine a_drawn [[], [], [0, 1], [0, 1, 2], [], [], [4, 5], [4, 5, 6], [0, 1, 2, 3, 4, 5, 6, 7]] mixed rfl ?_
      refine dws ?_
      have hk2 : k < b.length := by omega
      refine d_pure [0] [] rfl rfl (fun _ => gp_none (st_move rfl rfl)) ?_
      refine d_pure [5] [] rfl rfl (fun _ => gp_none (st_move rfl rfl)) ?_
      refine d_pure [17, 18] [] rfl rfl (fun _ => gp_none (st_indexD (k) rfl rfl (rfl) (getm hk1) Try.underlying24 rfl sz3 rfl)) ?_
      refine d_pure [19] [] rfl rfl (fun _ => gp_none (st_loadD1 rfl rfl on3 rfl)) ?_
      refine d_pure [1] [] rfl rfl (fun _ => gp_none (st_move rfl rfl)) ?_
      refine d_pure [5] [] rfl rfl (fun _ => gp_none (st_move rfl rfl)) ?_
      refine d_pure [21, 22] [] rfl rfl (fun _ => gp_none (st_indexD (k) rfl rfl (rfl) (getm hk2) Try.underlying24 rfl sz3 rfl)) ?_
      refine d_pure [23] [] rfl rfl (fun _ => gp_none (st_loadD1 rfl rfl on3 rfl)) ?_
      refine dwc 8 rfl rfl rfl ?_
      refine dw1 9 rfl rfl ?_
      refine Pstep.go (st_neq rfl rfl rfl) ?_
      refine o_nil ⟨rfl, ?_⟩
      refine dwe ?_
      refine a_if rfl (fun h25 => ?_) (fun h25 => ?_)
      · refine a_seq ?_
        refine a_region ?_
        refine Pstep.go (st_assign rfl rfl) ?_
        refine o_nil ?_
        refine a_ret ?_
        exact ⟨_, [], [], res_of rfl, rfl, rfl, retF (fun h => ne_at hk1 hk2 h25 h), rfl⟩
      · refine a_skip ?_
        refine a_region ?_
        refine Pstep.go (st_move rfl rfl) ?_
        refine Pstep.go (st_add rfl rfl (wrapS (k + 1) (by omega)) rfl) ?_
        refine Pstep.go (st_assign rfl rfl) ?_
        refine o_nil ?_
        exact ⟨k + 1, ⟨by show k + 1 ≤ _; omega, tk_succ hk1 hk2 hk (by simpa using h25)⟩, by show a.length - (k + 1) < a.length - k; omega, ⟨rfl, rfl, fun _ _ => Has.get (l := [(0, _), (1, _), (5, _)]) ⟨rfl, rfl, rfl, trivial⟩⟩⟩
    · refine a_exit ?_
      refine a_seq ?_
      refine a_region ?_
      refine Pstep.go (st_assign rfl rfl) ?_
      refine o_nil ?_
      refine a_ret ?_
      exact ⟨_, [], [], res_of rfl, rfl, rfl, retT (tk_all hlen (by have h := h14; omega) hk), rfl⟩
set_option maxRecDepth 100000 in
theorem backitem_p (i : Itm) (g1 : i.po.length ≤ 10000) (g2 : i.pa.length ≤ 10000) (g3 : i.af.length ≤ 10000) : PCalls Try.prog 36 [.d (itmD i)] (itmD i) := by
  refine a_enter Try.func36 rfl rfl Try.ntmps36 rfl rfl rfl fun F hF => ?_
  refine a_seq ?_
  refine a_region ?_
  refine Estep.go (st_box 1 rfl rfl rfl rfl rfl rfl rfl) ?_
  refine Estep.go (st_alloc 2 zl26 rfl rfl rfl rfl) ?_
  refine o_nil ?_
  refine a_seq ?_
  refine a_drawn [[], [0], [], [2], [], [4], [], [], [7], [6, 7, 8], [0, 1, 2, 3, 4, 5, 6, 7, 8, 9], [], [0, 1, 2, 3, 4, 5, 6, 7, 8, 9, 10, 11]] mixed rfl ?_
  refine dws ?_
  refine d_pure [1] [] rfl rfl (fun _ => gp_none (st_fieldP rfl fi33_0 rfl rfl rfl)) ?_
  refine d_pureA [6] rfl rfl (fun _ => gp_none (st_loadP rfl rfl rfl on3 rfl)) ?_
  refine d_pure [1] [] rfl rfl (fun _ => gp_none (st_fieldP rfl fi33_1 rfl rfl rfl)) ?_
  refine d_pureA [8] rfl rfl (fun _ => gp_none (st_loadP rfl rfl rfl on3 rfl)) ?_
  refine d_pure [1] [] rfl rfl (fun _ => gp_none (st_fieldP rfl fi33_2 rfl rfl rfl)) ?_
  refine d_pureA [10] rfl rfl (fun _ => gp_none (st_loadP rfl rfl rfl on3 rfl)) ?_
  refine d_eff [] [3] [(12, _)] rfl rfl (fun _ => ge_none (st_buildSlice 3 sl24 rfl rfl rfl rfl rfl rfl rfl rfl)) (.inr ⟨12, _, rfl, rfl, rfl, rfl, rfl⟩) rfl rfl rfl rfl rfl ?_
  refine d_pure [1] [] rfl rfl (fun _ => gp_none (st_fieldP rfl fi33_5 rfl rfl rfl)) ?_
  refine d_pureA [13] rfl rfl (fun _ => gp_none (st_loadP rfl rfl rfl on24 rfl)) ?_
  refine d_eff [12, 14] [3] [(15, _)] rfl rfl (fun _ => ge_none (st_appMD (([] : List Int)) (i.af) rfl rfl rfl rfl rfl rfl (fun _ => rfl) sl24 (by simp only [List.length_nil]; omega) rfl rfl rfl rfl)) (.inr ⟨15, _, rfl, rfl, rfl, rfl, rfl⟩) rfl rfl rfl rfl rfl ?_
  refine d_pure [7, 9, 11, 15] [] rfl rfl (fun _ => gp_none (st_build zl26 pl26 rfl rfl rfl)) ?_
  refine d_eff [] [4] [(3, _)] rfl rfl (fun _ => ge_none (st_alloc 4 zl26 rfl rfl rfl rfl)) (.inr ⟨3, _, rfl, rfl, rfl, rfl, rfl⟩) rfl rfl rfl rfl rfl ?_
  refine dwc 12 rfl rfl rfl ?_
  refine dw1 13 rfl rfl ?_
  refine Estep.go (st_storeP rfl rfl rfl rfl rfl rfl rfl sz26) ?_
  refine o_nil ⟨rfl, ?_⟩
  refine dwe ?_
  refine a_seq ?_
  refine a_seq ?_
  refine a_freezeC (ys := i.af.map intD) 4 0 5 3 rfl rfl rfl (by simp) (List.take_of_length_le (by simp)) rfl rfl rfl rfl rfl rfl ?_
  refine a_adoptC 4 0 3 901 sl22 rfl rfl rfl rfl rfl rfl rfl ?_
  refine a_region ?_
  refine Pstep.go (st_assign rfl rfl) ?_
  refine o_nil ?_
  refine a_block ?_
  refine a_loopP (α := List Post) (fun acc => ⟨60, [(1, (.ptr 1 0 0)), (2, (.ptr 2 0 0)), (3, (.ptr 4 0 0)), (4, (.d (intD (acc.length : Int))))], [(901, [.rowD 104 4 (acc.map postD)]), (1, [.blk 33 [.d (intD i.id), .d (intD i.pr), .d (intD i.sq), .d (.sl none (i.po.map postD)), .d (.sl none (i.pa.map payD)), .d (.sl none (i.af.map intD))]]), (2, [.blk 26 [.d (intD 0), .d (intD 0), .d (intD 0), nilC, nilC, nilC]]), (4, [.blk 26 [.d (intD i.id), .d (intD i.pr), .d (intD i.sq), .own 901 0 acc.length, nilC, .d (.sl none (i.af.map intD))]])]⟩) (fun acc => acc = i.po.take acc.length ∧ acc.length ≤ i.po.length) (fun acc => i.po.length - acc.length) ([]) (⟨by simp, Nat.zero_le _⟩) (lep_of hF [901, 1, 2, 4] rfl rfl ⟨rfl, rfl, rfl, rfl, trivial⟩) ?_
  rintro acc ⟨hI, hk0⟩
  refine a_seq ?_
  refine a_seq ?_
  refine a_region ?_
  refine Pstep.go (st_move rfl rfl) ?_
  refine Pstep.go (st_fieldP rfl fi33_3 rfl rfl rfl) ?_
  refine Pstep.go (st_loadP rfl rfl rfl on30 rfl) ?_
  refine Pstep.go (st_lenMap rfl Try.underlying30 rfl) ?_
  refine Pstep.go (st_lss rfl rfl rfl) ?_
  refine o_nil ?_
  refine a_if rfl (fun h21 => ?_) (fun h21 => ?_)
  · have hk1 : acc.length < i.po.length := lt_cast h21
    refine a_skip ?_
    refine a_seq ?_
    refine a_block ?_
    refine a_drawn [[], [0], [], [2], [], [2, 3, 4], [2, 3, 4, 5], [2, 3, 4, 5, 6], [], [8], [], [8, 9, 10], [8, 9, 10, 11], [8, 9, 10, 11, 12], [2, 3, 4, 5, 6, 7, 8, 9, 10, 11, 12, 13], [2, 3, 4, 5, 6, 7, 8, 9, 10, 11, 12, 13, 14], [0, 1, 2, 3, 4, 5, 6, 7, 8, 9, 10, 11, 12, 13, 14, 15], [0, 1, 2, 3, 4, 5, 6, 7, 8, 9, 10, 11, 12, 13, 14, 15, 16], [0, 1, 2, 3, 4, 5, 6, 7, 8, 9, 10, 11, 12, 13, 14, 15, 16, 17]] mixed rfl ?_
    refine dws ?_
    refine d_pure [3] [] rfl rfl (fun _ => gp_none (st_fieldP rfl fi26_3 rfl rfl rfl)) ?_
    refine d_pureA [24] rfl rfl (fun _ => gp_none (st_loadP rfl rfl rfl on22 rfl)) ?_
    refine d_pure [1] [] rfl rfl (fun _ => gp_none (st_fieldP rfl fi33_3 rfl rfl rfl)) ?_
    refine d_pureA [26] rfl rfl (fun _ => gp_none (st_loadP rfl rfl rfl on30 rfl)) ?_
    refine d_pure [4] [] rfl rfl (fun _ => gp_none (st_move rfl rfl)) ?_
    refine d_pure [27, 28] [] rfl rfl (fun _ => gp_none (st_indexD (acc.length) rfl rfl (rfl) (getm hk1) Try.underlying30 rfl sz106 rfl)) ?_
    refine d_pure [29] [] rfl rfl (fun _ => gp_none (st_fieldFS rfl fi106_0 rfl rfl rfl)) ?_
    refine d_pure [30] [] rfl rfl (fun _ => gp_none (st_loadDS rfl rfl rw41 rfl)) ?_
    refine d_pure [1] [] rfl rfl (fun _ => gp_none (st_fieldP rfl fi33_3 rfl rfl rfl)) ?_
    refine d_pureA [32] rfl rfl (fun _ => gp_none (st_loadP rfl rfl rfl on30 rfl)) ?_
    refine d_pure [4] [] rfl rfl (fun _ => gp_none (st_move rfl rfl)) ?_
    refine d_pure [33, 34] [] rfl rfl (fun _ => gp_none (st_indexD (acc.length) rfl rfl (rfl) (getm hk1) Try.underlying30 rfl sz106 rfl)) ?_
    refine d_pure [35] [] rfl rfl (fun _ => gp_none (st_fieldF1 rfl fi106_1 rfl rfl rfl)) ?_
    refine d_pure [36] [] rfl rfl (fun _ => gp_none (st_loadD1 rfl rfl on2 rfl)) ?_
    refine d_pure [31, 37] [] rfl rfl (fun _ => gp_none (st_build zl104 pl104 rfl rfl rfl)) ?_
    refine d_eff [38] [5] [(39, _)] rfl rfl (fun _ => ge_none (st_buildSlice 5 sl22 rfl rfl rfl rfl rfl rfl rfl rfl)) (.inr ⟨39, _, rfl, rfl, rfl, rfl, rfl⟩) rfl rfl rfl rfl rfl ?_
    refine dwc 16 rfl rfl rfl ?_
    refine dw1 17 rfl rfl ?_
    refine Estep.go (st_appM (acc) ([i.po[acc.length]]) rfl rfl rfl rfl rfl rfl rfl rfl sl22 (by simp only [List.length_singleton]; omega) rfl rfl rfl rfl) ?_
    refine o_nil ⟨rfl, ?_⟩
    refine dw1 18 rfl rfl ?_
    refine Pstep.go (st_fieldP rfl fi26_3 rfl rfl rfl) ?_
    refine o_nil ⟨rfl, ?_⟩
    refine dw1 19 rfl rfl ?_
    refine Estep.go (st_storeP rfl rfl rfl rfl rfl rfl rfl sz22) ?_
    refine o_nil ⟨rfl, ?_⟩
    refine dwe ?_
    refine a_region ?_
    refine Pstep.go (st_move rfl rfl) ?_
    refine Pstep.go (st_add rfl rfl (wrapA acc i.po[acc.length] (by omega)) rfl) ?_
    refine Pstep.go (st_assign rfl rfl) ?_
    refine o_nil ?_
    exact ⟨acc ++ [i.po[acc.length]], ⟨tk_next hI hk1, by rw [List.length_append]; show acc.length + 1 ≤ _; omega⟩, by rw [List.length_append]; show i.po.length - (acc.length + 1) < i.po.length - acc.length; omega, lep_of hF [901, 1, 2, 4] rfl (rfl) ⟨rfl, rfl, rfl, rfl, trivial⟩⟩
  · refine a_exit ?_
    refine a_seq ?_
    refine a_seq ?_
    have hacc := tk_end hI (fun h => h21 (by omega))
    refine a_freezeC (ys := i.po.map postD) 4 0 3 901 rfl rfl rfl (by simp) (by rw [hacc]; exact List.take_of_length_le (by simp)) rfl rfl rfl rfl rfl rfl ?_
    refine a_adoptC 4 0 4 902 sl23 rfl rfl rfl rfl rfl rfl rfl ?_
    refine a_region ?_
    refine Pstep.go (st_assign rfl rfl) ?_
    refine o_nil ?_
    refine a_block ?_
    refine a_loopP (α := List Pay) (fun acc2 => ⟨60, [(1, (.ptr 1 0 0)), (2, (.ptr 2 0 0)), (3, (.ptr 4 0 0)), (5, (.d (intD (acc2.length : Int))))], [(902, [.rowD 109 3 (acc2.map payD)]), (1, [.blk 33 [.d (intD i.id), .d (intD i.pr), .d (intD i.sq), .d (.sl none (i.po.map postD)), .d (.sl none (i.pa.map payD)), .d (.sl none (i.af.map intD))]]), (2, [.blk 26 [.d (intD 0), .d (intD 0), .d (intD 0), nilC, nilC, nilC]]), (4, [.blk 26 [.d (intD i.id), .d (intD i.pr), .d (intD i.sq), .d (.sl none (i.po.map postD)), .own 902 0 acc2.length, .d (.sl none (i.af.map intD))]])]⟩) (fun acc2 => acc2 = i.pa.take acc2.length ∧ acc2.length ≤ i.pa.length) (fun acc2 => i.pa.length - acc2.length) ([]) (⟨by simp, Nat.zero_le _⟩) (lep_of hF [902, 1, 2, 4] rfl rfl ⟨rfl, rfl, rfl, rfl, trivial⟩) ?_
    rintro acc2 ⟨hJ, hk2⟩
    refine a_seq ?_
    refine a_seq ?_
    refine a_region ?_
    refine Pstep.go (st_move rfl rfl) ?_
    refine Pstep.go (st_fieldP rfl fi33_4 rfl rfl rfl) ?_
    refine Pstep.go (st_loadP rfl rfl rfl on31 rfl) ?_
    refine Pstep.go (st_lenMap rfl Try.underlying31 rfl) ?_
    refine Pstep.go (st_lss rfl rfl rfl) ?_
    refine o_nil ?_
    refine a_if rfl (fun h46 => ?_) (fun h46 => ?_)
    · have hk3 : acc2.length < i.pa.length := lt_cast h46
      refine a_skip ?_
      refine a_seq ?_
      refine a_block ?_
      refine a_drawn [[], [0], [], [2], [], [2, 3, 4], [2, 3, 4, 5], [2, 3, 4, 5, 6], [0, 1, 2, 3, 4, 5, 6, 7], [0, 1, 2, 3, 4, 5, 6, 7, 8], [0, 1, 2, 3, 4, 5, 6, 7, 8, 9]] mixed rfl ?_
      refine dws ?_
      refine d_pure [3] [] rfl rfl (fun _ => gp_none (st_fieldP rfl fi26_4 rfl rfl rfl)) ?_
      refine d_pureA [49] rfl rfl (fun _ => gp_none (st_loadP rfl rfl rfl on23 rfl)) ?_
      refine d_pure [1] [] rfl rfl (fun _ => gp_none (st_fieldP rfl fi33_4 rfl rfl rfl)) ?_
      refine d_pureA [51] rfl rfl (fun _ => gp_none (st_loadP rfl rfl rfl on31 rfl)) ?_
      refine d_pure [5] [] rfl rfl (fun _ => gp_none (st_move rfl rfl)) ?_
      refine d_pure [52, 53] [] rfl rfl (fun _ => gp_none (st_indexD (acc2.length) rfl rfl (rfl) (getm hk3) Try.underlying31 rfl sz108 rfl)) ?_
      refine d_pure [54] [] rfl rfl (fun _ => gp_none (st_loadDS rfl rfl rw108 rfl)) ?_
      refine d_eff [55] [6] [(56, _)] rfl rfl (fun _ => ge_none (st_buildSlice 6 sl23 rfl rfl rfl rfl rfl rfl rfl rfl)) (.inr ⟨56, _, rfl, rfl, rfl, rfl, rfl⟩) rfl rfl rfl rfl rfl ?_
      refine dwc 8 rfl rfl rfl ?_
      refine dw1 9 rfl rfl ?_
      refine Estep.go (st_appM (acc2) ([i.pa[acc2.length]]) rfl rfl rfl rfl rfl rfl rfl rfl sl23 (by simp only [List.length_singleton]; omega) rfl rfl rfl rfl) ?_
      refine o_nil ⟨rfl, ?_⟩
      refine dw1 10 rfl rfl ?_
      refine Pstep.go (st_fieldP rfl fi26_4 rfl rfl rfl) ?_
      refine o_nil ⟨rfl, ?_⟩
      refine dw1 11 rfl rfl ?_
      refine Estep.go (st_storeP rfl rfl rfl rfl rfl rfl rfl sz23) ?_
      refine o_nil ⟨rfl, ?_⟩
      refine dwe ?_
      refine a_region ?_
      refine Pstep.go (st_move rfl rfl) ?_
      refine Pstep.go (st_add rfl rfl (wrapA acc2 i.pa[acc2.length] (by omega)) rfl) ?_
      refine Pstep.go (st_assign rfl rfl) ?_
      refine o_nil ?_
      exact ⟨acc2 ++ [i.pa[acc2.length]], ⟨tk_next hJ hk3, by rw [List.length_append]; show acc2.length + 1 ≤ _; omega⟩, by rw [List.length_append]; show i.pa.length - (acc2.length + 1) < i.pa.length - acc2.length; omega, lep_of hF [902, 1, 2, 4] rfl (rfl) ⟨rfl, rfl, rfl, rfl, trivial⟩⟩
    · refine a_exit ?_
      refine a_seq ?_
      have hacc2 := tk_end hJ (fun h => h46 (by omega))
      refine a_freezeC (ys := i.pa.map payD) 4 0 4 902 rfl rfl rfl (by simp) (by rw [hacc2]; exact List.take_of_length_le (by simp)) rfl rfl rfl rfl rfl rfl ?_
      refine a_region ?_
      refine Pstep.go (st_loadPS rfl rfl rw26 rfl rfl rfl) ?_
      refine Estep.go (st_storeP rfl rfl rfl rfl rfl rfl rfl sz26) ?_
      refine o_nil ?_
      refine a_ret ?_
      exact ⟨_, [], [], res_of rfl, rfl, rfl, rfl, rfl⟩
def qIds (l : List Itm) (r : Rsc) : List Int := (l.filter fun i => decide (dltE i r < 0)).map Itm.id
theorem flt_snoc' {α : Type} {p : α → Bool} {l : List α} {k : Nat} (hk : k < l.length) : (l.take (k + 1)).filter p = (l.take k).filter p ++ (if p l[k] then [l[k]] else []) := flt_snoc hk
set_option maxRecDepth 100000 in
theorem refqueue_p (p : Prb) (r : Rsc) (g2 : p.it.length ≤ 1000) (g3 : ∀ i ∈ sortO p.it, i.po.length ≤ 1000 ∧ i.pa.length ≤ 1000 ∧ i.af.length ≤ 1000) : PCalls Try.prog 40 [.d (prbD p), .d (rscD r)] (.sl none ((qIds (sortO p.it) r).map intD)) := by
  obtain ⟨S, hS⟩ : ∃ S, sortO p.it = S := ⟨_, rfl⟩
  have hso := refsorted_p p.it g2
  have hSl : S.length ≤ 1000 := by rw [← hS, sortO_len]; exact g2
  rw [hS] at hso g3 ⊢
  refine a_enter Try.func40 rfl rfl Try.ntmps40 rfl rfl rfl fun F hF => ?_
  refine a_seq ?_
  refine a_region ?_
  refine Estep.go (st_box 1 rfl rfl rfl rfl rfl rfl rfl) ?_
  refine Estep.go (st_box 2 rfl rfl rfl rfl rfl rfl rfl) ?_
  refine Pstep.go (st_assign rfl rfl) ?_
  refine o_nil ?_
  refine a_seq ?_
  refine a_region ?_
  refine Pstep.go (st_assign rfl rfl) ?_
  refine o_nil ?_
  refine a_seq ?_
  refine a_region ?_
  refine Pstep.go (st_fieldP rfl fi67_1 rfl rfl rfl) ?_
  refine Pstep.go (st_loadP rfl rfl rfl on65 rfl) ?_
  refine Pstep.go (st_callP (hso) rfl rfl) ?_
  refine Pstep.go (st_assign rfl rfl) ?_
  refine o_nil ?_
  refine a_seq ?_
  refine a_seq ?_
  refine a_adopt 5 900 sl24 rfl rfl rfl rfl ?_
  refine a_region ?_
  refine Pstep.go (st_assign rfl rfl) ?_
  refine o_nil ?_
  refine a_block ?_
  refine a_loopP (α := Nat × List Int) (fun q => ⟨33, [(3, (.ptr 2 0 0)), (5, (.own 900 0 q.2.length)), (6, (.d (.sl none (S.map itmD)))), (7, (.d (intD (q.1 : Int))))], [(2, [.blk 48 [.d (intD r.k), .d (strD r.acc.o), .d (intD r.acc.k), .d (strD r.acc.a), .d (strD r.f), .d (strD r.t)]]), (900, [.rowD 3 1 (q.2.map intD)])]⟩) (fun q => q.1 ≤ S.length ∧ q.2 = qIds (S.take q.1) r) (fun q => S.length - q.1) ((0, [])) (⟨Nat.zero_le _, rfl⟩) (lep_of hF [2, 900] rfl rfl ⟨rfl, rfl, rfl, rfl, trivial⟩) ?_
  rintro ⟨k, acc⟩ ⟨hk0, hA⟩
  dsimp only at hk0 hA ⊢
  refine a_seq ?_
  refine a_seq ?_
  refine a_region ?_
  refine Pstep.go (st_move rfl rfl) ?_
  refine Pstep.go (st_move rfl rfl) ?_
  refine Pstep.go (st_lenMap rfl Try.underlying65 rfl) ?_
  refine Pstep.go (st_lss rfl rfl rfl) ?_
  refine o_nil ?_
  refine a_if rfl (fun h14 => ?_) (fun h14 => ?_)
  · have hk1 : k < S.length := lt_cast h14
    refine a_skip ?_
    refine a_seq ?_
    refine a_block ?_
    refine a_seq ?_
    refine a_drawn [[], [], [0, 1], [0, 1, 2], [], [0, 1, 2, 3, 4], [0, 1, 2, 3, 4, 5]] mixed rfl ?_
    refine dws ?_
    have hgi := g3 _ (List.getElem_mem hk1)
    have hal : acc.length ≤ 1000 := by rw [hA]; unfold qIds; rw [List.length_map]; have := List.length_filter_le (fun i => decide (dltE i r < 0)) (S.take k); rw [List.length_take] at this; omega
    refine d_pure [6] [] rfl rfl (fun _ => gp_none (st_move rfl rfl)) ?_
    refine d_pure [7] [] rfl rfl (fun _ => gp_none (st_move rfl rfl)) ?_
    refine d_pure [17, 18] [] rfl rfl (fun _ => gp_none (st_indexD (k) rfl rfl (rfl) (getm hk1) Try.underlying65 rfl sz26 rfl)) ?_
    refine d_pure [19] [] rfl rfl (fun _ => gp_none (st_loadDS rfl rfl rw26 rfl)) ?_
    refine d_pureA [3] rfl rfl (fun _ => gp_none (st_loadPS rfl rfl rw48 rfl rfl rfl)) ?_
    refine dwc 5 rfl rfl rfl ?_
    refine dw1 6 rfl rfl ?_
    refine Pstep.go (st_callP (refdelta_p S[k] r hgi.1 hgi.2.1 hgi.2.2) rfl rfl) ?_
    refine o_nil ⟨rfl, ?_⟩
    refine dw1 7 rfl rfl ?_
    refine Pstep.go (st_lss rfl rfl rfl) ?_
    refine o_nil ⟨rfl, ?_⟩
    refine dwe ?_
    refine a_if rfl (fun h23 => ?_) (fun h23 => ?_)
    · refine a_region ?_
      refine Pstep.go (st_move rfl rfl) ?_
      refine Pstep.go (st_move rfl rfl) ?_
      refine Pstep.go (st_move rfl rfl) ?_
      refine Pstep.go (st_indexD (k) rfl rfl (rfl) (getm hk1) Try.underlying65 rfl sz26 rfl) ?_
      refine Pstep.go (st_fieldF1 rfl fi26_0 rfl rfl rfl) ?_
      refine Pstep.go (st_loadD1 rfl rfl on3 rfl) ?_
      refine Estep.go (st_buildSlice 3 sl24 rfl rfl rfl rfl rfl rfl rfl rfl) ?_
      refine Estep.go (st_appM (acc) ([S[k].id]) rfl rfl rfl rfl rfl rfl rfl rfl sl24 (by simp only [List.length_singleton]; omega) rfl rfl rfl rfl) ?_
      refine Pstep.go (st_assign rfl rfl) ?_
      refine o_nil ?_
      refine a_region ?_
      refine Pstep.go (st_move rfl rfl) ?_
      refine Pstep.go (st_add rfl rfl (wrapS (k + 1) (by omega)) rfl) ?_
      refine Pstep.go (st_assign rfl rfl) ?_
      refine o_nil ?_
      exact ⟨(k + 1, _), ⟨by show k + 1 ≤ _; omega, by show _ = qIds (S.take (k + 1)) r; unfold qIds; rw [flt_snoc hk1, if_pos (by simpa using h23), List.map_append, hA]; rfl⟩, by show S.length - (k + 1) < S.length - k; omega, lep_of hF [2, 900] rfl (rfl) ⟨rfl, rfl, rfl, rfl, trivial⟩⟩
    · refine a_skip ?_
      refine a_region ?_
      refine Pstep.go (st_move rfl rfl) ?_
      refine Pstep.go (st_add rfl rfl (wrapS (k + 1) (by omega)) rfl) ?_
      refine Pstep.go (st_assign rfl rfl) ?_
      refine o_nil ?_
      exact ⟨(k + 1, _), ⟨by show k + 1 ≤ _; omega, by show _ = qIds (S.take (k + 1)) r; unfold qIds; rw [flt_snoc hk1, if_neg (by simpa using h23), List.append_nil, hA]; rfl⟩, by show S.length - (k + 1) < S.length - k; omega, lep_of hF [2, 900] rfl (rfl) ⟨rfl, rfl, rfl, rfl, trivial⟩⟩
  · refine a_exit ?_
    refine a_seq ?_
    refine a_freezeM (emb := intD) 5 900 acc rfl rfl rfl rfl rfl rfl rfl ?_
    refine a_region ?_
    refine Pstep.go (st_move rfl rfl) ?_
    refine Pstep.go (st_assign rfl rfl) ?_
    refine o_nil ?_
    refine a_ret ?_
    exact ⟨_, [], [], res_of rfl, rfl, rfl, by rw [hA, List.take_of_length_le (by have h := h14; omega)], rfl⟩
end Go.Proofs.Ytfmpiabmnjmobaa

/- Layer 28: a problem's room. -/
namespace Go.Proofs.Ytfmpiabmnjmobaa
open Go.RowKit

def roomV (l : List Roo) (r : Rsc) : Int × Bool := match l.find? fun x => decide (x.r = r) with
  | some x => (x.n, true)
  | none => (0, false)
theorem roomV_at {l : List Roo} {r : Rsc} : ∀ {k : Nat} (hk : k < l.length), r ∉ (l.take k).map Roo.r → l[k].r = r → roomV l r = (l[k].n, true) := fun {k} hk h0 h => by
  have : l.find? (fun x => decide (x.r = r)) = some l[k] := by
    rw [List.find?_eq_some_iff_getElem]
    refine ⟨by simp [h], k, hk, rfl, fun j hj => ?_⟩
    simp only [Bool.not_eq_true', decide_eq_false_iff_not]
    intro e
    exact h0 (mem_tk hk hj e)
  unfold roomV; rw [this]
theorem roomV_no {l : List Roo} {r : Rsc} (h : r ∉ l.map Roo.r) : roomV l r = (0, false) := by
  have : l.find? (fun x => decide (x.r = r)) = none := by
    rw [List.find?_eq_none]
    intro x hx e
    exact h (List.mem_map.2 ⟨x, hx, by simpa using e⟩)
  unfold roomV; rw [this]
def roomE (p : Prb) (r : Rsc) : Int × Bool := if prbE p = 0 then roomV p.ro r else (0, false)
set_option maxRecDepth 100000 in
theorem room_p (p : Prb) (r : Rsc) (hb : PrbB p) : PCalls Try.prog 34 [.d (prbD p), .d (rscD r)] (.tup [intD (roomE p r).1, boolD (roomE p r).2]) := by
  have hck := pcheck_p p hb
  obtain ⟨g1, _, _⟩ := hb
  by_cases hE : prbE p = 0
  · rw [hE] at hck
    have hR : roomE p r = roomV p.ro r := if_pos hE
    rw [hR]
    refine a_enter Try.func34 rfl rfl Try.ntmps34 rfl rfl rfl fun F hF => ?_
    refine a_seq ?_
    refine a_region ?_
    refine Estep.go (st_box 1 rfl rfl rfl rfl rfl rfl rfl) ?_
    refine Estep.go (st_box 2 rfl rfl rfl rfl rfl rfl rfl) ?_
    refine Pstep.go (st_assign rfl rfl) ?_
    refine Pstep.go (st_assign rfl rfl) ?_
    refine o_nil ?_
    refine a_seq ?_
    refine a_seq ?_
    refine a_region ?_
    refine Pstep.go (st_loadPS rfl rfl rw72 rfl rfl rfl) ?_
    refine Pstep.go (st_callP (hck) rfl rfl) ?_
    refine Pstep.go (st_neq rfl rfl rfl) ?_
    refine o_nil ?_
    refine a_false rfl ((by decide)) ?_
    refine a_skip ?_
    refine a_seq ?_
    refine a_seq ?_
    refine a_region ?_
    refine Pstep.go (st_fieldP rfl fi72_0 rfl rfl rfl) ?_
    refine Pstep.go (st_loadP rfl rfl rfl on69 rfl) ?_
    refine Pstep.go (st_lenMap rfl Try.underlying69 rfl) ?_
    refine Pstep.go (st_move rfl rfl) ?_
    refine o_nil ?_
    refine a_block ?_
    refine a_loopP (α := Nat) (fun k => ⟨25, [(3, (.ptr 2 0 0)), (12, (.d (.sl none (p.ro.map rooD)))), (13, (.d (intD (p.ro.length : Int)))), (14, (.d (intD (k : Int))))], [(2, [.blk 43 [.d (intD r.k), .d (strD r.acc.o), .d (intD r.acc.k), .d (strD r.acc.a), .d (strD r.f), .d (strD r.t)]])]⟩) (fun k => k ≤ p.ro.length ∧ r ∉ (p.ro.take k).map Roo.r) (fun k => p.ro.length - k) (0) (⟨Nat.zero_le _, by simp⟩) (lep_of hF [2] rfl rfl ⟨rfl, rfl, rfl, rfl, trivial⟩) ?_
    rintro k ⟨hk0, hk⟩
    refine a_seq ?_
    refine a_region ?_
    refine Pstep.go (st_lss rfl rfl rfl) ?_
    refine o_nil ?_
    refine a_seq ?_
    refine a_if rfl (fun h15 => ?_) (fun h15 => ?_)
    · have hk1 : k < p.ro.length := lt_cast h15
      refine a_skip ?_
      refine a_seq ?_
      refine a_block ?_
      refine a_seq ?_
      refine a_region ?_
      refine Pstep.go (st_indexD (k) rfl rfl (rfl) (getm hk1) Try.underlying69 rfl sz124 rfl) ?_
      refine Pstep.go (st_loadDS rfl rfl rw124 rfl) ?_
      refine Estep.go (st_alloc 3 zl124 rfl rfl rfl rfl) ?_
      refine Estep.go (st_storeP rfl rfl rfl rfl rfl rfl rfl sz124) ?_
      refine o_nil ?_
      refine a_seq ?_
      refine a_region ?_
      refine Pstep.go (st_fieldP rfl fi124_0 rfl rfl rfl) ?_
      refine Pstep.go (st_loadPS rfl rfl rw43 rfl rfl rfl) ?_
      refine Pstep.go (st_loadPS rfl rfl rw43 rfl rfl rfl) ?_
      refine Pstep.go (st_eqlSt (la := rscC p.ro[k].r) (lb := rscC r) (ds := rscT) (by kernel_rfl) (by kernel_rfl) (by kernel_rfl) rfl rfl rfl rfl (rsc_plain _) (rsc_plain _) (rsc_eqC _ _) rfl) ?_
      refine o_nil ?_
      refine a_if rfl (fun h21 => ?_) (fun h21 => ?_)
      · refine a_seq ?_
        refine a_region ?_
        refine Pstep.go (st_fieldP rfl fi124_1 rfl rfl rfl) ?_
        refine Pstep.go (st_loadP rfl rfl rfl on2 rfl) ?_
        refine Pstep.go (st_assign rfl rfl) ?_
        refine Pstep.go (st_assign rfl rfl) ?_
        refine o_nil ?_
        refine a_ret ?_
        exact ⟨_, [], [], res_of rfl, rfl, rfl, by rw [roomV_at hk1 hk h21], rfl⟩
      · refine a_skip ?_
        refine a_region ?_
        refine Pstep.go (st_add rfl rfl (wrapS (k + 1) (by omega)) rfl) ?_
        refine Pstep.go (st_move rfl rfl) ?_
        refine o_nil ?_
        exact ⟨k + 1, ⟨by show k + 1 ≤ _; omega, nmem_next hk1 hk h21⟩, by show p.ro.length - (k + 1) < p.ro.length - k; omega, lep_of hF [2] rfl (rfl) ⟨rfl, rfl, rfl, rfl, trivial⟩⟩
    · refine a_exit ?_
      refine a_seq ?_
      refine a_region ?_
      refine Pstep.go (st_assign rfl rfl) ?_
      refine Pstep.go (st_assign rfl rfl) ?_
      refine o_nil ?_
      refine a_ret ?_
      exact ⟨_, [], [], res_of rfl, rfl, rfl, by rw [roomV_no (by rw [List.take_of_length_le (by have h := h15; omega)] at hk; exact hk)], rfl⟩
  · have hR : roomE p r = (0, false) := if_neg hE
    rw [hR]
    refine a_enter Try.func34 rfl rfl Try.ntmps34 rfl rfl rfl fun F hF => ?_
    refine a_seq ?_
    refine a_region ?_
    refine Estep.go (st_box 1 rfl rfl rfl rfl rfl rfl rfl) ?_
    refine Estep.go (st_box 2 rfl rfl rfl rfl rfl rfl rfl) ?_
    refine Pstep.go (st_assign rfl rfl) ?_
    refine Pstep.go (st_assign rfl rfl) ?_
    refine o_nil ?_
    refine a_seq ?_
    refine a_seq ?_
    refine a_region ?_
    refine Pstep.go (st_loadPS rfl rfl rw72 rfl rfl rfl) ?_
    refine Pstep.go (st_callP (hck) rfl rfl) ?_
    refine Pstep.go (st_neq rfl rfl rfl) ?_
    refine o_nil ?_
    refine a_true rfl ((by simpa using hE)) ?_
    refine a_seq ?_
    refine a_region ?_
    refine Pstep.go (st_assign rfl rfl) ?_
    refine Pstep.go (st_assign rfl rfl) ?_
    refine o_nil ?_
    refine a_ret ?_
    exact ⟨_, [], [], res_of rfl, rfl, rfl, rfl, rfl⟩
end Go.Proofs.Ytfmpiabmnjmobaa

/- Layer 28: copies of items. -/
namespace Go.Proofs.Ytfmpiabmnjmobaa
open Go.RowKit

set_option maxRecDepth 100000 in
theorem cloneP_p (l : List Post) (hl : l.length ≤ 1000000) : PCalls Try.prog 98 [.d (.sl none (l.map postD))] (.sl none (l.map postD)) := by
  refine a_enter Try.func98 rfl rfl Try.ntmps98 rfl rfl rfl fun F hF => ?_
  refine a_seq ?_
  refine a_region ?_
  refine Pstep.go (st_assign rfl rfl) ?_
  refine o_anyNil 2 rfl ?_
  refine o_nil ?_
  refine a_seq ?_
  refine a_seq ?_
  refine a_region ?_
  refine Pstep.go (st_move rfl rfl) ?_
  refine o_nilSplit 3 rfl (fun h0 => ?_) ?_
  · refine Pstep.go (st_eqlN Try.underlying30 rfl rfl) ?_
    refine o_nil ?_
    refine a_true rfl (rfl) ?_
    refine a_seq ?_
    refine a_region ?_
    refine Pstep.go (st_assign rfl rfl) ?_
    refine o_anyNil 2 rfl ?_
    refine o_nil ?_
    refine a_ret ?_
    exact ⟨_, [], [], res_of rfl, rfl, rfl, by first | (rw [h0]; done) | (rw [h0]), rfl⟩
  · refine Pstep.go (st_eqlN Try.underlying30 rfl rfl) ?_
    refine o_nil ?_
    refine a_false rfl (rfl) ?_
    refine a_skip ?_
    refine a_seq ?_
    refine a_region ?_
    refine Estep.go (st_buildSlice 20 sl30 rfl rfl rfl rfl rfl rfl rfl rfl) ?_
    refine Pstep.go (st_move rfl rfl) ?_
    refine Estep.go (st_appMD (([] : List Post)) (l) rfl rfl rfl rfl rfl rfl (fun _ => rfl) sl30 (by simp only [List.length_nil]; omega) rfl rfl rfl rfl) ?_
    refine o_freezeM (emb := postD) 7 20 ([] ++ l) rfl rfl rfl rfl rfl rfl rfl ?_
    refine Pstep.go (st_assign rfl rfl) ?_
    skip
    refine o_nil ?_
    refine a_ret ?_
    exact ⟨_, [], [], res_of rfl, rfl, rfl, rfl, rfl⟩
set_option maxRecDepth 100000 in
theorem cloneY_p (l : List Pay) (hl : l.length ≤ 1000000) : PCalls Try.prog 99 [.d (.sl none (l.map payD))] (.sl none (l.map payD)) := by
  refine a_enter Try.func99 rfl rfl Try.ntmps99 rfl rfl rfl fun F hF => ?_
  refine a_seq ?_
  refine a_region ?_
  refine Pstep.go (st_assign rfl rfl) ?_
  refine o_anyNil 2 rfl ?_
  refine o_nil ?_
  refine a_seq ?_
  refine a_seq ?_
  refine a_region ?_
  refine Pstep.go (st_move rfl rfl) ?_
  refine o_nilSplit 3 rfl (fun h0 => ?_) ?_
  · refine Pstep.go (st_eqlN Try.underlying31 rfl rfl) ?_
    refine o_nil ?_
    refine a_true rfl (rfl) ?_
    refine a_seq ?_
    refine a_region ?_
    refine Pstep.go (st_assign rfl rfl) ?_
    refine o_anyNil 2 rfl ?_
    refine o_nil ?_
    refine a_ret ?_
    exact ⟨_, [], [], res_of rfl, rfl, rfl, by first | (rw [h0]; done) | (rw [h0]), rfl⟩
  · refine Pstep.go (st_eqlN Try.underlying31 rfl rfl) ?_
    refine o_nil ?_
    refine a_false rfl (rfl) ?_
    refine a_skip ?_
    refine a_seq ?_
    refine a_region ?_
    refine Estep.go (st_buildSlice 20 sl31 rfl rfl rfl rfl rfl rfl rfl rfl) ?_
    refine Pstep.go (st_move rfl rfl) ?_
    refine Estep.go (st_appMD (([] : List Pay)) (l) rfl rfl rfl rfl rfl rfl (fun _ => rfl) sl31 (by simp only [List.length_nil]; omega) rfl rfl rfl rfl) ?_
    refine o_freezeM (emb := payD) 7 20 ([] ++ l) rfl rfl rfl rfl rfl rfl rfl ?_
    refine Pstep.go (st_assign rfl rfl) ?_
    skip
    refine o_nil ?_
    refine a_ret ?_
    exact ⟨_, [], [], res_of rfl, rfl, rfl, rfl, rfl⟩
set_option maxRecDepth 100000 in
theorem cloneI_p (l : List Int) (hl : l.length ≤ 1000000) : PCalls Try.prog 100 [.d (.sl none (l.map intD))] (.sl none (l.map intD)) := by
  refine a_enter Try.func100 rfl rfl Try.ntmps100 rfl rfl rfl fun F hF => ?_
  refine a_seq ?_
  refine a_region ?_
  refine Pstep.go (st_assign rfl rfl) ?_
  refine o_anyNil 2 rfl ?_
  refine o_nil ?_
  refine a_seq ?_
  refine a_seq ?_
  refine a_region ?_
  refine Pstep.go (st_move rfl rfl) ?_
  refine o_nilSplit 3 rfl (fun h0 => ?_) ?_
  · refine Pstep.go (st_eqlN Try.underlying24 rfl rfl) ?_
    refine o_nil ?_
    refine a_true rfl (rfl) ?_
    refine a_seq ?_
    refine a_region ?_
    refine Pstep.go (st_assign rfl rfl) ?_
    refine o_anyNil 2 rfl ?_
    refine o_nil ?_
    refine a_ret ?_
    exact ⟨_, [], [], res_of rfl, rfl, rfl, by first | (rw [h0]; done) | (rw [h0]), rfl⟩
  · refine Pstep.go (st_eqlN Try.underlying24 rfl rfl) ?_
    refine o_nil ?_
    refine a_false rfl (rfl) ?_
    refine a_skip ?_
    refine a_seq ?_
    refine a_region ?_
    refine Estep.go (st_buildSlice 20 sl24 rfl rfl rfl rfl rfl rfl rfl rfl) ?_
    refine Pstep.go (st_move rfl rfl) ?_
    refine Estep.go (st_appMD (([] : List Int)) (l) rfl rfl rfl rfl rfl rfl (fun _ => rfl) sl24 (by simp only [List.length_nil]; omega) rfl rfl rfl rfl) ?_
    refine o_freezeM (emb := intD) 7 20 ([] ++ l) rfl rfl rfl rfl rfl rfl rfl ?_
    refine Pstep.go (st_assign rfl rfl) ?_
    skip
    refine o_nil ?_
    refine a_ret ?_
    exact ⟨_, [], [], res_of rfl, rfl, rfl, rfl, rfl⟩
set_option maxRecDepth 100000 in
theorem clone_p (i : Itm) (g1 : i.po.length ≤ 1000000) (g2 : i.pa.length ≤ 1000000) (g3 : i.af.length ≤ 1000000) : PCalls Try.prog 75 [.d (itmD i)] (itmD i) := by
  refine a_enter Try.func75 rfl rfl Try.ntmps75 rfl rfl rfl fun F hF => ?_
  refine a_seq ?_
  refine a_region ?_
  refine Estep.go (st_box 1 rfl rfl rfl rfl rfl rfl rfl) ?_
  refine Estep.go (st_alloc 2 zl33 rfl rfl rfl rfl) ?_
  refine o_nil ?_
  refine a_seq ?_
  refine a_drawn [[], [0], [0, 1], [], [3], [0, 1, 2, 3, 4], [], [6], [0, 1, 2, 3, 4, 5, 6, 7], [0, 1, 2, 3, 4, 6, 7], [0, 1, 2, 3, 4, 5, 6, 7, 8, 9], [0, 1, 2, 3, 4, 5, 6, 7, 8, 9, 10], [0, 1, 2, 3, 4, 5, 6, 7, 8, 9, 10, 11], [0, 1, 2, 3, 4, 5, 6, 7, 8, 9, 10, 11, 12], [0, 1, 2, 3, 4, 5, 6, 7, 8, 9, 10, 11, 12, 13]] mixed rfl ?_
  refine dws ?_
  refine d_pure [1] [] rfl rfl (fun _ => gp_none (st_fieldP rfl fi33_3 rfl rfl rfl)) ?_
  refine d_pure [3] [1] rfl rfl (fun _ => gp_none (st_loadP rfl rfl rfl on30 rfl)) ?_
  refine d_pure [4] [] rfl rfl (fun _ => gp_none (st_callP (cloneP_p i.po g1) rfl rfl)) ?_
  refine d_pure [1] [] rfl rfl (fun _ => gp_none (st_fieldP rfl fi33_4 rfl rfl rfl)) ?_
  refine d_pure [6] [1] rfl rfl (fun _ => gp_none (st_loadP rfl rfl rfl on31 rfl)) ?_
  refine d_pure [7] [] rfl rfl (fun _ => gp_none (st_callP (cloneY_p i.pa g2) rfl rfl)) ?_
  refine d_pure [1] [] rfl rfl (fun _ => gp_none (st_fieldP rfl fi33_5 rfl rfl rfl)) ?_
  refine d_pure [9] [1] rfl rfl (fun _ => gp_none (st_loadP rfl rfl rfl on24 rfl)) ?_
  refine d_pure [10] [] rfl rfl (fun _ => gp_none (st_callP (cloneI_p i.af g3) rfl rfl)) ?_
  refine d_pure [1] [] rfl rfl (fun _ => gp_none (st_fieldP rfl fi33_3 rfl rfl rfl)) ?_
  refine dwc 10 rfl rfl rfl ?_
  refine dw1 11 rfl rfl ?_
  refine Estep.go (st_storeP rfl rfl rfl rfl rfl rfl rfl sz30) ?_
  refine o_nil ⟨rfl, ?_⟩
  refine dw1 12 rfl rfl ?_
  refine Pstep.go (st_fieldP rfl fi33_4 rfl rfl rfl) ?_
  refine o_nil ⟨rfl, ?_⟩
  refine dw1 13 rfl rfl ?_
  refine Estep.go (st_storeP rfl rfl rfl rfl rfl rfl rfl sz31) ?_
  refine o_nil ⟨rfl, ?_⟩
  refine dw1 14 rfl rfl ?_
  refine Pstep.go (st_fieldP rfl fi33_5 rfl rfl rfl) ?_
  refine o_nil ⟨rfl, ?_⟩
  refine dw1 15 rfl rfl ?_
  refine Estep.go (st_storeP rfl rfl rfl rfl rfl rfl rfl sz24) ?_
  refine o_nil ⟨rfl, ?_⟩
  refine dwe ?_
  refine a_seq ?_
  refine a_region ?_
  refine Pstep.go (st_loadPS rfl rfl rw33 rfl rfl rfl) ?_
  refine Estep.go (st_storeP rfl rfl rfl rfl rfl rfl rfl sz33) ?_
  refine o_nil ?_
  refine a_ret ?_
  exact ⟨_, [], [], res_of rfl, rfl, rfl, rfl, rfl⟩
end Go.Proofs.Ytfmpiabmnjmobaa
