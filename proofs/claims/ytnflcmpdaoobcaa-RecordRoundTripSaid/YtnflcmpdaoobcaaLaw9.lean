/- The walk of RecordRoundTrip. -/
import Derived.Test.YtnflcmpdaoobcaaLaw8
namespace Go.Proofs.Ytnflcmpdaoobcaa
open Go.RowKit

def cutP (ls : List (List UInt8)) : List (List UInt8) := (ls.take 20).map (fun l => l.take 200)
theorem cutP_len (ls : List (List UInt8)) : (cutP ls).length = min 20 ls.length := by simp [cutP]
theorem cutP_le (ls : List (List UInt8)) : ∀ l ∈ cutP ls, l.length ≤ 200 := by
  intro l hl
  obtain ⟨y, _, rfl⟩ := List.mem_map.1 hl
  rw [List.length_take]; omega
theorem cutP_snoc {ls : List (List UInt8)} {k : Nat} (hk : k < ls.length) (h20 : k < 20) : cutP (ls.take (k + 1)) = cutP (ls.take k) ++ [ls[k].take 200] := by
  simp only [cutP, List.take_take]
  rw [show min 20 (k + 1) = k + 1 by omega, show min 20 k = k by omega, List.take_succ_eq_append_getElem hk, List.map_append]; rfl
theorem cut_p (ls : List (List UInt8)) (hm : ∀ l ∈ ls, l.length ≤ 140737488355328) (hn : ls.length ≤ 140737488355328) : PCalls Try.prog 16 [.d (.sl none (ls.map bytesD))] (.sl none ((cutP ls).map bytesD)) := by
  refine a_enter Try.func16 rfl rfl Try.ntmps16 rfl rfl rfl fun F hF => ?_
  refine a_seq ?_
  refine a_region ?_
  refine Pstep.go (st_assign rfl rfl) ?_
  refine o_nil ?_
  refine a_seq ?_
  refine a_region ?_
  refine Pstep.go (st_assign rfl rfl) ?_
  refine o_nil ?_
  refine a_seq ?_
  refine a_seq ?_
  refine a_region ?_
  refine Pstep.go (st_assign rfl rfl) ?_
  refine o_nil ?_
  refine a_block ?_
  refine a_adopt 3 900 sl29 rfl rfl rfl rfl ?_
  refine a_loopP (α := Nat × List (List UInt8)) (fun q => ⟨30, [(0, .d (.sl none (ls.map bytesD))), (3, (.own 900 0 q.2.length)), (4, (.d (.raw (.int .i64 (q.1 : Int)))))], [(900, [.rowD 22 1 (q.2.map bytesD)])]⟩) (fun q => q.1 ≤ ls.length ∧ q.1 ≤ 20 ∧ q.2 = cutP (ls.take q.1)) (fun q => 20 - q.1) ((0, [])) (⟨Nat.zero_le _, Nat.zero_le _, rfl⟩) (lep_of hF [900] rfl rfl ⟨rfl, rfl, rfl, trivial⟩) ?_
  rintro ⟨k, acc⟩ ⟨hk, h20, hacc⟩
  dsimp only at hk h20 hacc ⊢
  refine a_seq ?_
  refine a_seq ?_
  refine a_region ?_
  refine Pstep.go (st_move rfl rfl) ?_
  refine Pstep.go (st_move rfl rfl) ?_
  first | refine Pstep.go (st_lenMap rfl Try.underlying29 rfl) ?_ | refine Pstep.go (st_lenD rfl rfl Try.underlying29 rfl) ?_ | refine Pstep.go (st_lenO rfl Try.underlying29 rfl) ?_ | refine Pstep.go (st_lenSL rfl Try.underlying29 rfl) ?_ | refine Pstep.go (st_lenS rfl Try.underlying29 rfl) ?_
  first | refine Pstep.go (st_lss rfl rfl rfl) ?_ | refine Pstep.go (st_lssS rfl rfl rfl) ?_
  refine Pstep.go (st_move rfl rfl) ?_
  first | refine o_splitP 9 rfl (fun h9 => ?_) (fun h9 => ?_) | refine o_splitB 9 rfl (fun h9 => ?_) (fun h9 => ?_)
  · refine o_run rfl rfl rfl ?_
    refine Pstep.go (st_move rfl rfl) ?_
    refine o_run rfl rfl rfl ?_
    first | refine Pstep.go (st_lss rfl rfl rfl) ?_ | refine Pstep.go (st_lssS rfl rfl rfl) ?_
    refine Pstep.go (st_pickT rfl rfl rfl rfl) ?_
    refine o_nil ?_
    first | refine a_if rfl (fun h12 => ?_) (fun h12 => ?_) | refine a_cond rfl (fun h12 => ?_) (fun h12 => ?_)
    · refine a_skip ?_
      refine a_seq ?_
      refine a_block ?_
      refine a_drawn [[], [], [], [1, 2], [1, 2, 3], [], [], [5, 6], [5, 6, 7], [5, 6, 7, 8], [5, 6, 7, 8, 9], [1, 2, 3, 4, 5, 6, 7, 8, 9, 10], [1, 2, 3, 4, 5, 6, 7, 8, 9, 10, 11], [0, 1, 2, 3, 4, 5, 6, 7, 8, 9, 10, 11, 12], [0, 1, 2, 3, 4, 5, 6, 7, 8, 9, 10, 11, 12, 13]] mixed rfl ?_
      refine dws ?_
      have hk1 : k < ls.length := lt_cast h9
      have hk2 : k < 20 := by have h := h12; omega
      have hll := hm ls[k] (List.getElem_mem hk1)
      have hcl : acc.length ≤ 20 := by rw [hacc, cutP_len]; omega
      first | refine d_pure [3] [] rfl rfl (fun _ => gp_none (st_move rfl rfl)) ?_ | refine d_pureA [3] rfl rfl (fun _ => gp_none (st_move rfl rfl)) ?_
      first | refine d_pure [0] [] rfl rfl (fun _ => gp_none (st_move rfl rfl)) ?_ | refine d_pureA [0] rfl rfl (fun _ => gp_none (st_move rfl rfl)) ?_
      first | refine d_pure [4] [] rfl rfl (fun _ => gp_none (st_move rfl rfl)) ?_ | refine d_pureA [4] rfl rfl (fun _ => gp_none (st_move rfl rfl)) ?_
      first | refine d_pure [16, 17] [] rfl rfl (fun _ => gp_none (st_indexD (k) rfl rfl (rfl) (getb hk1) Try.underlying29 rfl sz22 rfl)) ?_ | refine d_pureA [16, 17] rfl rfl (fun _ => gp_none (st_indexD (k) rfl rfl (rfl) (getb hk1) Try.underlying29 rfl sz22 rfl)) ?_ | refine d_pure [16, 17] [] rfl rfl (fun _ => gp_none (st_indexO (k) rfl rfl (rfl) (getb hk1) rfl Try.underlying29 sz22 rfl)) ?_ | refine d_pureA [16, 17] rfl rfl (fun _ => gp_none (st_indexO (k) rfl rfl (rfl) (getb hk1) rfl Try.underlying29 sz22 rfl)) ?_
      first | refine d_pure [18] [] rfl rfl (fun _ => gp_none (st_loadD1 rfl rfl on22 rfl)) ?_ | refine d_pureA [18] rfl rfl (fun _ => gp_none (st_loadD1 rfl rfl on22 rfl)) ?_ | refine d_pure [18] [] rfl rfl (fun _ => gp_none (st_loadP rfl rfl rfl on22 rfl)) ?_ | refine d_pureA [18] rfl rfl (fun _ => gp_none (st_loadP rfl rfl rfl on22 rfl)) ?_ | refine d_pure [18] [] rfl rfl (fun _ => gp_none (st_loadR rfl rfl (rfl) rfl on22 rfl)) ?_ | refine d_pureA [18] rfl rfl (fun _ => gp_none (st_loadR rfl rfl (rfl) rfl on22 rfl)) ?_
      first | refine d_pure [0] [] rfl rfl (fun _ => gp_none (st_move rfl rfl)) ?_ | refine d_pureA [0] rfl rfl (fun _ => gp_none (st_move rfl rfl)) ?_
      first | refine d_pure [4] [] rfl rfl (fun _ => gp_none (st_move rfl rfl)) ?_ | refine d_pureA [4] rfl rfl (fun _ => gp_none (st_move rfl rfl)) ?_
      first | refine d_pure [20, 21] [] rfl rfl (fun _ => gp_none (st_indexD (k) rfl rfl (rfl) (getb hk1) Try.underlying29 rfl sz22 rfl)) ?_ | refine d_pureA [20, 21] rfl rfl (fun _ => gp_none (st_indexD (k) rfl rfl (rfl) (getb hk1) Try.underlying29 rfl sz22 rfl)) ?_ | refine d_pure [20, 21] [] rfl rfl (fun _ => gp_none (st_indexO (k) rfl rfl (rfl) (getb hk1) rfl Try.underlying29 sz22 rfl)) ?_ | refine d_pureA [20, 21] rfl rfl (fun _ => gp_none (st_indexO (k) rfl rfl (rfl) (getb hk1) rfl Try.underlying29 sz22 rfl)) ?_
      first | refine d_pure [22] [] rfl rfl (fun _ => gp_none (st_loadD1 rfl rfl on22 rfl)) ?_ | refine d_pureA [22] rfl rfl (fun _ => gp_none (st_loadD1 rfl rfl on22 rfl)) ?_ | refine d_pure [22] [] rfl rfl (fun _ => gp_none (st_loadP rfl rfl rfl on22 rfl)) ?_ | refine d_pureA [22] rfl rfl (fun _ => gp_none (st_loadP rfl rfl rfl on22 rfl)) ?_ | refine d_pure [22] [] rfl rfl (fun _ => gp_none (st_loadR rfl rfl (rfl) rfl on22 rfl)) ?_ | refine d_pureA [22] rfl rfl (fun _ => gp_none (st_loadR rfl rfl (rfl) rfl on22 rfl)) ?_
      first | refine d_pure [23] [] rfl rfl (fun _ => gp_none (st_lenMap rfl Try.underlying22 rfl)) ?_ | refine d_pureA [23] rfl rfl (fun _ => gp_none (st_lenMap rfl Try.underlying22 rfl)) ?_ | refine d_pure [23] [] rfl rfl (fun _ => gp_none (st_lenD rfl rfl Try.underlying22 rfl)) ?_ | refine d_pureA [23] rfl rfl (fun _ => gp_none (st_lenD rfl rfl Try.underlying22 rfl)) ?_ | refine d_pure [23] [] rfl rfl (fun _ => gp_none (st_lenO rfl Try.underlying22 rfl)) ?_ | refine d_pureA [23] rfl rfl (fun _ => gp_none (st_lenO rfl Try.underlying22 rfl)) ?_ | refine d_pure [23] [] rfl rfl (fun _ => gp_none (st_lenSL rfl Try.underlying22 rfl)) ?_ | refine d_pureA [23] rfl rfl (fun _ => gp_none (st_lenSL rfl Try.underlying22 rfl)) ?_ | refine d_pure [23] [] rfl rfl (fun _ => gp_none (st_lenS rfl Try.underlying22 rfl)) ?_ | refine d_pureA [23] rfl rfl (fun _ => gp_none (st_lenS rfl Try.underlying22 rfl)) ?_
      obtain ⟨m, hm1, hm2, hm3⟩ : ∃ m : Nat, (if (200 : Int) < (ls[k].length : Int) then (200 : Int) else (ls[k].length : Int)) = (m : Int) ∧ m ≤ ls[k].length ∧ ls[k].take 200 = ls[k].take m := ⟨min 200 ls[k].length, by omega, by omega, by rw [List.take_eq_take_iff]; omega⟩
      first | refine d_pure [24] [] rfl rfl (fun _ => gp_none (st_min rfl rfl (hm1) rfl)) ?_ | refine d_pureA [24] rfl rfl (fun _ => gp_none (st_min rfl rfl (hm1) rfl)) ?_
      first | refine d_pure [19, 25] [] rfl rfl (fun _ => gp_none (st_sliceHiM (ls[k]) (m) rfl rfl rfl (rfl) (by omega) Try.underlying22 sz5 (fun _ => rfl) rfl)) ?_ | refine d_pureA [19, 25] rfl rfl (fun _ => gp_none (st_sliceHiM (ls[k]) (m) rfl rfl rfl (rfl) (by omega) Try.underlying22 sz5 (fun _ => rfl) rfl)) ?_
      refine d_eff [26] [1] [(27, _)] rfl rfl (fun _ => ge_none (st_buildSlice 1 sl29 rfl rfl rfl rfl rfl rfl rfl rfl)) (.inr ⟨27, _, rfl, rfl, rfl, rfl, rfl⟩) rfl rfl rfl rfl rfl ?_
      refine dwc 13 rfl rfl rfl ?_
      refine dw1 14 rfl rfl ?_
      first | refine Estep.go (st_appM (acc) ([ls[k].take m]) rfl rfl rfl rfl rfl rfl rfl rfl sl29 (by show (acc.length + 1) * 24 ≤ _; omega) rfl rfl rfl rfl) ?_ | refine Estep.go (st_appMD (acc) ([ls[k].take m]) rfl rfl rfl rfl rfl rfl (fun _ => rfl) sl29 (by show (acc.length + 1) * 24 ≤ _; omega) rfl rfl rfl rfl) ?_
      refine o_nil ⟨rfl, ?_⟩
      refine dw1 15 rfl rfl ?_
      refine Pstep.go (st_assign rfl rfl) ?_
      refine o_nil ⟨rfl, ?_⟩
      refine dwe ?_
      refine a_region ?_
      refine Pstep.go (st_move rfl rfl) ?_
      refine Pstep.go (st_add rfl rfl (wrapS (k + 1) (by omega)) rfl) ?_
      refine Pstep.go (st_assign rfl rfl) ?_
      refine o_nil ?_
      exact ⟨(k + 1, acc ++ [ls[k].take m]), ⟨by show k + 1 ≤ _; omega, by show k + 1 ≤ _; omega, by show _ = cutP (ls.take (k + 1)); rw [cutP_snoc hk1 hk2, hacc, hm3]⟩, by show 20 - (k + 1) < 20 - k; omega, lep_of hF [900] rfl (rfl) ⟨rfl, rfl, rfl, trivial⟩⟩
    · refine a_exit ?_
      refine a_seq ?_
      have hres : acc = cutP ls := by rw [hacc]; unfold cutP; rw [List.take_take]; congr 1; rw [List.take_eq_take_iff]; first | (have h := h12; omega) | (have h := h9; omega)
      refine a_freezeM (emb := bytesD) 3 900 acc rfl rfl rfl rfl rfl rfl rfl ?_
      refine a_region ?_
      refine Pstep.go (st_move rfl rfl) ?_
      refine Pstep.go (st_assign rfl rfl) ?_
      refine o_nil ?_
      refine a_ret ?_
      exact ⟨_, [], [], res_of rfl, rfl, rfl, by rw [hres] <;> rfl, rfl⟩
  · refine o_pass rfl rfl rfl rfl ?_
    refine o_pass rfl rfl rfl rfl ?_
    refine Pstep.go (st_pickF rfl rfl rfl rfl) ?_
    refine o_nil ?_
    refine a_false rfl rfl ?_
    refine a_exit ?_
    refine a_seq ?_
    have hres : acc = cutP ls := by rw [hacc]; unfold cutP; rw [List.take_take]; congr 1; rw [List.take_eq_take_iff]; first | (have h := h12; omega) | (have h := h9; omega)
    refine a_freezeM (emb := bytesD) 3 900 acc rfl rfl rfl rfl rfl rfl rfl ?_
    refine a_region ?_
    refine Pstep.go (st_move rfl rfl) ?_
    refine Pstep.go (st_assign rfl rfl) ?_
    refine o_nil ?_
    refine a_ret ?_
    exact ⟨_, [], [], res_of rfl, rfl, rfl, by rw [hres] <;> rfl, rfl⟩

theorem encodeAllP_p (ls : List (List UInt8)) (hl : ls.length ≤ 20) (hm : ∀ l ∈ ls, l.length ≤ 200) : PCalls Try.prog 20 [.d (.sl none (ls.map bytesD))] (.tup [bytesD (encAll ls), .raw (.int .i64 0)]) := by
  refine a_enter Try.func20 rfl rfl Try.ntmps20 rfl rfl rfl fun F hF => ?_
  refine a_seq ?_
  refine a_region ?_
  refine Pstep.go (st_assign rfl rfl) ?_
  refine Pstep.go (st_assign rfl rfl) ?_
  refine o_nil ?_
  refine a_seq ?_
  refine a_region ?_
  refine Pstep.go (st_assign rfl rfl) ?_
  refine o_nil ?_
  refine a_seq ?_
  refine a_seq ?_
  refine a_adopt 4 900 sl22 rfl rfl rfl rfl ?_
  refine a_region ?_
  refine Pstep.go (st_move rfl rfl) ?_
  first | refine Pstep.go (st_lenMap rfl Try.underlying29 rfl) ?_ | refine Pstep.go (st_lenD rfl rfl Try.underlying29 rfl) ?_ | refine Pstep.go (st_lenO rfl Try.underlying29 rfl) ?_ | refine Pstep.go (st_lenSL rfl Try.underlying29 rfl) ?_ | refine Pstep.go (st_lenS rfl Try.underlying29 rfl) ?_
  refine Pstep.go (st_move rfl rfl) ?_
  refine o_nil ?_
  refine a_block ?_
  refine a_loopP (α := Nat × List UInt8) (fun q => ⟨28, [(4, (.own 900 0 q.2.length)), (9, (.d (.sl none (ls.map bytesD)))), (10, (.d (.raw (.int .i64 (ls.length : Int))))), (11, (.d (.raw (.int .i64 (q.1 : Int)))))], [(900, [.rowD 5 1 (q.2.map byteD)])]⟩) (fun q => q.1 ≤ ls.length ∧ q.2 = encAll (ls.take q.1) ∧ q.2.length ≤ q.1 * 208) (fun q => ls.length - q.1) ((0, [])) (⟨Nat.zero_le _, rfl, Nat.zero_le _⟩) (lep_of hF [900] rfl rfl ⟨rfl, rfl, rfl, rfl, trivial⟩) ?_
  rintro ⟨k, acc⟩ ⟨hk, hacc, hle⟩
  dsimp only at hk hacc hle ⊢
  refine a_seq ?_
  refine a_region ?_
  first | refine Pstep.go (st_lss rfl rfl rfl) ?_ | refine Pstep.go (st_lssS rfl rfl rfl) ?_
  refine o_nil ?_
  refine a_seq ?_
  first | refine a_if rfl (fun h12 => ?_) (fun h12 => ?_) | refine a_cond rfl (fun h12 => ?_) (fun h12 => ?_)
  · have hk1 : k < ls.length := lt_cast h12
    refine a_skip ?_
    refine a_seq ?_
    refine a_block ?_
    refine a_seq ?_
    refine a_region ?_
    first | refine Pstep.go (st_indexD (k) rfl rfl (rfl) (getb hk1) Try.underlying29 rfl sz22 rfl) ?_ | refine Pstep.go (st_indexO (k) rfl rfl (rfl) (getb hk1) rfl Try.underlying29 sz22 rfl) ?_
    first | refine Pstep.go (st_loadD1 rfl rfl on22 rfl) ?_ | refine Pstep.go (st_loadP rfl rfl rfl on22 rfl) ?_ | refine Pstep.go (st_loadR rfl rfl (rfl) rfl on22 rfl) ?_
    refine Pstep.go (st_assign rfl rfl) ?_
    refine o_nil ?_
    refine a_seq ?_
    refine a_region ?_
    refine Pstep.go (st_move rfl rfl) ?_
    have hlk := hm ls[k] (List.getElem_mem hk1)
    have hel : (encL ls[k]).length ≤ 208 := by rw [encL_length]; omega
    refine Estep.go (st_callD (encode_o ls[k] (by omega) 1) rfl [1] ⟨rfl, trivial⟩ rfl rfl rfl rfl rfl rfl rfl rfl rfl) ?_
    refine Pstep.go (st_move rfl rfl) ?_
    first | refine Pstep.go (st_extractD rfl rfl rfl) ?_ | refine Pstep.go (st_extract rfl rfl rfl) ?_
    first | refine Pstep.go (st_extractD rfl rfl rfl) ?_ | refine Pstep.go (st_extract rfl rfl rfl) ?_
    refine Pstep.go (st_assign rfl rfl) ?_
    refine Pstep.go (st_assign rfl rfl) ?_
    refine o_nil ?_
    refine a_seq ?_
    refine a_seq ?_
    refine a_region ?_
    refine Pstep.go (st_move rfl rfl) ?_
    first | refine Pstep.go (st_neq rfl rfl rfl) ?_ | refine Pstep.go (st_neqSL rfl rfl rfl) ?_ | refine Pstep.go (st_neqS rfl rfl rfl) ?_ | refine Pstep.go (st_neqB Try.underlying31 rfl rfl rfl) ?_ | refine Pstep.go (st_neqP Try.underlying31 rfl rfl rfl) ?_ | refine Pstep.go (st_neqN Try.underlying31 rfl rfl) ?_ | refine Pstep.go (st_neqF Try.underlying31 rfl rfl rfl) ?_ | refine Pstep.go (st_neqFN Try.underlying31 rfl rfl) ?_
    refine o_nil ?_
    refine a_false rfl (by simp) ?_
    refine a_skip ?_
    refine a_region ?_
    refine Pstep.go (st_move rfl rfl) ?_
    refine Pstep.go (st_move rfl rfl) ?_
    first | refine Estep.go (st_appM (acc) (encL ls[k]) rfl rfl rfl rfl rfl rfl rfl rfl sl22 (by omega) rfl rfl rfl rfl) ?_ | refine Estep.go (st_appMD (acc) (encL ls[k]) rfl rfl rfl rfl rfl rfl (fun _ => rfl) sl22 (by omega) rfl rfl rfl rfl) ?_
    refine Pstep.go (st_assign rfl rfl) ?_
    refine o_nil ?_
    refine a_region ?_
    refine Pstep.go (st_add rfl rfl (wrapS (k + 1) (by omega)) rfl) ?_
    refine Pstep.go (st_move rfl rfl) ?_
    refine o_nil ?_
    exact ⟨(k + 1, acc ++ encL ls[k]), ⟨by show k + 1 ≤ _; omega, by show _ = encAll (ls.take (k + 1)); rw [List.take_succ_eq_append_getElem hk1, encAll_snoc, hacc], by show (acc ++ encL ls[k]).length ≤ (k + 1) * 208; rw [List.length_append]; omega⟩, by show ls.length - (k + 1) < ls.length - k; omega, lep_of hF [900] rfl (rfl) ⟨rfl, rfl, rfl, rfl, trivial⟩⟩
  · refine a_exit ?_
    refine a_seq ?_
    have hres : acc = encAll ls := by rw [hacc, List.take_of_length_le (by have h := h12; omega)]
    refine a_freezeM (emb := byteD) 4 900 acc rfl rfl rfl rfl rfl rfl rfl ?_
    refine a_region ?_
    refine Pstep.go (st_move rfl rfl) ?_
    refine Pstep.go (st_assign rfl rfl) ?_
    refine Pstep.go (st_assign rfl rfl) ?_
    refine o_nil ?_
    refine a_ret ?_
    exact ⟨_, [], [], res_of rfl, rfl, rfl, by rw [hres] <;> rfl, rfl⟩

/-- What the sequence feeds: the payloads, in order. -/
theorem allL_enc {LS : List (List UInt8)} (hm : ∀ l ∈ LS, l.length ≤ 1048576) : ∀ (f k : Nat), k ≤ LS.length → LS.length < k + f → (allL (encAll LS) f (encAll (LS.take k)).length).map (·.2) = LS.drop k
  | 0, k, hk, hf => by omega
  | f + 1, k, hk, hf => by
    have hsplit : encAll LS = encAll (LS.take k) ++ encAll (LS.drop k) := by rw [← encAll_append, List.take_append_drop]
    have hdrop : (encAll LS).drop (encAll (LS.take k)).length = encAll (LS.drop k) := by rw [hsplit, List.drop_left]
    by_cases h : k < LS.length
    · have hd : LS.drop k = LS[k] :: LS.drop (k + 1) := List.drop_eq_getElem_cons h
      have hlt : (encAll (LS.take k)).length < (encAll LS).length := by
        rw [hsplit, List.length_append, hd, encAll_cons, List.length_append, encL_length]; omega
      have hnx : nextL ((encAll LS).drop (encAll (LS.take k)).length) = (LS[k], 8 + LS[k].length, 0) := by
        rw [hdrop, hd, encAll_cons]; exact next_enc _ _ (hm _ (List.getElem_mem h))
      have hlen : (encAll (LS.take k)).length + (8 + LS[k].length) = (encAll (LS.take (k + 1))).length := by
        rw [List.take_succ_eq_append_getElem h, encAll_snoc, List.length_append, encL_length]
      rw [allL_next hnx hlt rfl, hlen, hd]
      simp only [List.map_cons]
      rw [allL_enc hm f (k + 1) h (by omega)]
    · have hk' : k = LS.length := by omega
      subst hk'
      have : ¬ (encAll (LS.take LS.length)).length < (encAll LS).length := by rw [List.take_length]; omega
      rw [allL_end this, List.drop_length]; rfl
theorem encAll_ge : ∀ LS : List (List UInt8), LS.length ≤ (encAll LS).length
  | [] => Nat.zero_le _
  | a :: r => by rw [encAll_cons, List.length_append, encL_length, List.length_cons]; have := encAll_ge r; omega
/-- The rounds of the law: how many there were, and whether they were broken off. -/
def stepR (s : Nat) (q : Nat × Bool) (_x : Nat × List UInt8) : (Nat × Bool) × Bool := ((q.1 + 1, decide (s < q.1 + 1)), decide (q.1 + 1 ≤ s))
theorem feeds_rt {P : Program} {l s : Nat} {H : Nat × Bool → Hp} {LS : List (List UInt8)}
    (hY : ∀ k off (hk : k < LS.length), YCalls P l (encAP (off, LS[k])) (H (k, false)) fun v H' => v = .d (.raw (.bool (decide (k + 1 ≤ s)))) ∧ H' = H (k + 1, decide (s < k + 1))) :
    ∀ (X : List (Nat × List UInt8)) (k : Nat), X.map (·.2) = LS.drop k → Feeds P l encAP H (stepR s) (k, false) X
  | [], _, _ => trivial
  | (off, p) :: X, k, h => by
    have hk : k < LS.length := by
      rcases Nat.lt_or_ge k LS.length with h' | h'
      · exact h'
      · rw [List.drop_of_length_le h'] at h; cases h
    rw [List.drop_eq_getElem_cons hk] at h
    simp only [List.map_cons, List.cons.injEq] at h
    obtain ⟨rfl, h2⟩ := h
    refine ⟨hY k off hk, fun hgo => ?_⟩
    have hgo' : k + 1 ≤ s := of_decide_eq_true hgo
    show Feeds P l encAP H (stepR s) (k + 1, decide (s < k + 1)) X
    rw [decide_eq_false (by omega)]
    exact feeds_rt hY X (k + 1) h2
theorem feed_rt {s : Nat} {LS : List (List UInt8)} : ∀ (X : List (Nat × List UInt8)) (k : Nat), k ≤ s → X.map (·.2) = LS.drop k → k ≤ LS.length → feed (stepR s) (k, false) X = (min LS.length (s + 1), decide (s + 1 ≤ LS.length))
  | [], k, hs, h, hk => by
    have : LS.length = k := by
      have := congrArg List.length h
      simp at this; omega
    subst this
    show (_, _) = _
    rw [decide_eq_false (by omega), show min LS.length (s + 1) = LS.length by omega]
  | (off, p) :: X, k, hs, h, hk => by
    have hk' : k < LS.length := by
      have := congrArg List.length h
      simp at this; omega
    rw [List.drop_eq_getElem_cons hk'] at h
    simp only [List.map_cons, List.cons.injEq] at h
    rw [feed_cons]
    show (if decide (k + 1 ≤ s) = true then feed (stepR s) (k + 1, decide (s < k + 1)) X else (k + 1, decide (s < k + 1))) = _
    by_cases hgo : k + 1 ≤ s
    · rw [decide_eq_true hgo, if_pos rfl, decide_eq_false (by omega)]
      exact feed_rt X (k + 1) hgo h.2 hk'
    · rw [decide_eq_false hgo, if_neg (by decide), decide_eq_true (by omega), decide_eq_true (by omega), show min LS.length (s + 1) = k + 1 by omega]

theorem tmodN (z : Nat) : (z : Int).tmod 20 = ((z % 20 : Nat) : Int) := rfl
def stR : Bool → LoopState
  | true => .done
  | false => .ready
def pdR : Bool → Option Code
  | true => some (.exit 0)
  | false => none
abbrev hhR (LS : List (List UInt8)) (z : Nat) (q : Nat) : Hp := [(4, [.blk 3 [.d (.raw (.int .i64 (q : Int)))]]), (3, [.blk 4 [.d (.raw (.bool false))]]), (2, [.blk 5 [.d (.raw (.int .u8 (z : Int)))]]), (1, [.blk 29 [.d (.sl none (LS.map bytesD))]])]
theorem law9_p (ls : List (List UInt8)) (hm : ∀ l ∈ ls, l.length ≤ 140737488355328) (hn : ls.length ≤ 140737488355328) (z : Nat) (hz : z < 256) : PCalls Try.prog 11 [.d (.sl none (ls.map bytesD)), .d (.raw (.int .u8 (z : Int)))] (.raw (.bool true)) := by
  obtain ⟨LS, hLS⟩ : ∃ LS, LS = cutP ls := ⟨_, rfl⟩
  have h20 : LS.length ≤ 20 := by rw [hLS, cutP_len]; omega
  have h200 : ∀ l ∈ LS, l.length ≤ 200 := by rw [hLS]; exact cutP_le ls
  have hbig : ∀ l ∈ LS, l.length ≤ 1048576 := fun l h => by have := h200 l h; omega
  have hcut := cut_p ls hm hn
  rw [← hLS] at hcut
  have hel : (encAll LS).length ≤ 4160 := by have h := encAll_length LS 200 h200; omega
  have hsc : scanL (encAll LS).length (encAll LS) = (LS, (encAll LS).length, 0) := by
    have h := scan_all LS [] hbig
    simpa [scan_nil] using h
  have hscan := scan_p (encAll LS) (by omega)
  rw [hsc] at hscan
  dsimp only at hscan
  have hX : (allL (encAll LS) ((encAll LS).length + 1) 0).map (·.2) = LS.drop 0 := allL_enc hbig ((encAll LS).length + 1) 0 (Nat.zero_le _) (by have := encAll_ge LS; omega)
  refine a_enterR Try.func11 rfl rfl Try.ntmps11 rfl rfl rfl fun F hF hFl => ?_
  refine a_seq ?_
  refine a_region ?_
  refine Estep.go (st_box 1 rfl rfl rfl rfl rfl rfl rfl) ?_
  refine Estep.go (st_box 2 rfl rfl rfl rfl rfl rfl rfl) ?_
  refine Estep.go (st_alloc 3 zl4 rfl rfl rfl rfl) ?_
  refine o_nil ?_
  refine a_seq ?_
  refine a_region ?_
  first | refine Pstep.go (st_loadD1 rfl rfl on29 rfl) ?_ | refine Pstep.go (st_loadP rfl rfl rfl on29 rfl) ?_ | refine Pstep.go (st_loadR rfl rfl (rfl) rfl on29 rfl) ?_
  refine Pstep.go (st_callP (hcut) rfl rfl) ?_
  refine Estep.go (st_storeP rfl rfl rfl rfl rfl rfl rfl sz29) ?_
  refine o_nil ?_
  refine a_seq ?_
  refine a_seq ?_
  refine a_region ?_
  refine Pstep.go (st_callP (known_p) rfl rfl) ?_
  first | refine Pstep.go (st_notP rfl rfl) ?_ | refine Pstep.go (st_not rfl rfl) ?_
  refine o_nil ?_
  refine a_false rfl (rfl) ?_
  refine a_skip ?_
  refine a_seq ?_
  refine a_region ?_
  first | refine Pstep.go (st_loadD1 rfl rfl on29 rfl) ?_ | refine Pstep.go (st_loadP rfl rfl rfl on29 rfl) ?_ | refine Pstep.go (st_loadR rfl rfl (rfl) rfl on29 rfl) ?_
  refine Pstep.go (st_callP (encodeAllP_p LS h20 h200) rfl rfl) ?_
  refine Pstep.go (st_move rfl rfl) ?_
  first | refine Pstep.go (st_extractD rfl rfl rfl) ?_ | refine Pstep.go (st_extract rfl rfl rfl) ?_
  first | refine Pstep.go (st_extractD rfl rfl rfl) ?_ | refine Pstep.go (st_extract rfl rfl rfl) ?_
  refine Pstep.go (st_assign rfl rfl) ?_
  refine Pstep.go (st_assign rfl rfl) ?_
  refine o_nil ?_
  refine a_seq ?_
  refine a_region ?_
  refine Pstep.go (st_move rfl rfl) ?_
  refine Pstep.go (st_callP (hscan) rfl rfl) ?_
  refine Pstep.go (st_move rfl rfl) ?_
  first | refine Pstep.go (st_extractD rfl rfl rfl) ?_ | refine Pstep.go (st_extract rfl rfl rfl) ?_
  first | refine Pstep.go (st_extractD rfl rfl rfl) ?_ | refine Pstep.go (st_extract rfl rfl rfl) ?_
  first | refine Pstep.go (st_extractD rfl rfl rfl) ?_ | refine Pstep.go (st_extract rfl rfl rfl) ?_
  refine Pstep.go (st_assign rfl rfl) ?_
  refine Pstep.go (st_assign rfl rfl) ?_
  refine Pstep.go (st_assign rfl rfl) ?_
  refine o_nil ?_
  refine a_seq ?_
  refine a_seq ?_
  refine a_region ?_
  refine Pstep.go (st_move rfl rfl) ?_
  first | refine Pstep.go (st_neq rfl rfl rfl) ?_ | refine Pstep.go (st_neqSL rfl rfl rfl) ?_ | refine Pstep.go (st_neqS rfl rfl rfl) ?_ | refine Pstep.go (st_neqB Try.underlying31 rfl rfl rfl) ?_ | refine Pstep.go (st_neqP Try.underlying31 rfl rfl rfl) ?_ | refine Pstep.go (st_neqN Try.underlying31 rfl rfl) ?_ | refine Pstep.go (st_neqF Try.underlying31 rfl rfl rfl) ?_ | refine Pstep.go (st_neqFN Try.underlying31 rfl rfl) ?_
  refine Pstep.go (st_move rfl rfl) ?_
  refine o_setF 30 rfl (by simp) ?_
  refine o_run rfl rfl rfl ?_
  refine Pstep.go (st_move rfl rfl) ?_
  refine o_run rfl rfl rfl ?_
  first | refine Pstep.go (st_neq rfl rfl rfl) ?_ | refine Pstep.go (st_neqSL rfl rfl rfl) ?_ | refine Pstep.go (st_neqS rfl rfl rfl) ?_ | refine Pstep.go (st_neqB Try.underlying31 rfl rfl rfl) ?_ | refine Pstep.go (st_neqP Try.underlying31 rfl rfl rfl) ?_ | refine Pstep.go (st_neqN Try.underlying31 rfl rfl) ?_ | refine Pstep.go (st_neqF Try.underlying31 rfl rfl rfl) ?_ | refine Pstep.go (st_neqFN Try.underlying31 rfl rfl) ?_
  refine Pstep.go (st_pickF rfl rfl rfl rfl) ?_
  refine Pstep.go (st_move rfl rfl) ?_
  refine o_setF 34 rfl (by simp) ?_
  refine o_run rfl rfl rfl ?_
  refine Pstep.go (st_move rfl rfl) ?_
  refine o_run rfl rfl rfl ?_
  refine Pstep.go (st_move rfl rfl) ?_
  refine o_run rfl rfl rfl ?_
  first | refine Pstep.go (st_lenMap rfl Try.underlying22 rfl) ?_ | refine Pstep.go (st_lenD rfl rfl Try.underlying22 rfl) ?_ | refine Pstep.go (st_lenO rfl Try.underlying22 rfl) ?_ | refine Pstep.go (st_lenSL rfl Try.underlying22 rfl) ?_ | refine Pstep.go (st_lenS rfl Try.underlying22 rfl) ?_
  refine o_run rfl rfl rfl ?_
  first | refine Pstep.go (st_neq rfl rfl rfl) ?_ | refine Pstep.go (st_neqSL rfl rfl rfl) ?_ | refine Pstep.go (st_neqS rfl rfl rfl) ?_ | refine Pstep.go (st_neqB Try.underlying3 rfl rfl rfl) ?_ | refine Pstep.go (st_neqP Try.underlying3 rfl rfl rfl) ?_ | refine Pstep.go (st_neqN Try.underlying3 rfl rfl) ?_ | refine Pstep.go (st_neqF Try.underlying3 rfl rfl rfl) ?_ | refine Pstep.go (st_neqFN Try.underlying3 rfl rfl) ?_
  refine Pstep.go (st_pickF rfl rfl rfl rfl) ?_
  refine Pstep.go (st_move rfl rfl) ?_
  refine o_setF 40 rfl (by simp) ?_
  refine o_run rfl rfl rfl ?_
  refine Pstep.go (st_move rfl rfl) ?_
  refine o_run rfl rfl rfl ?_
  first | refine Pstep.go (st_loadD1 rfl rfl on29 rfl) ?_ | refine Pstep.go (st_loadP rfl rfl rfl on29 rfl) ?_ | refine Pstep.go (st_loadR rfl rfl (rfl) rfl on29 rfl) ?_
  refine o_run rfl rfl rfl ?_
  refine Pstep.go (st_callP (sames_p LS LS (by omega) (by omega)) rfl rfl) ?_
  refine o_run rfl rfl rfl ?_
  first | refine Pstep.go (st_notP rfl rfl) ?_ | refine Pstep.go (st_not rfl rfl) ?_
  refine Pstep.go (st_pickF rfl rfl rfl rfl) ?_
  refine o_nil ?_
  refine a_false rfl (by simp) ?_
  refine a_skip ?_
  refine a_seq ?_
  refine a_region ?_
  refine Estep.go (st_alloc 4 zl3 rfl rfl rfl rfl) ?_
  refine Estep.go (st_storeP rfl rfl rfl rfl rfl rfl rfl sz3) ?_
  refine o_nil ?_
  refine a_seq ?_
  refine a_seq ?_
  refine a_region ?_
  refine Pstep.go (st_move rfl rfl) ?_
  refine Estep.go (st_callD (all_c (encAll LS)) rfl [] trivial rfl rfl rfl rfl rfl rfl rfl rfl rfl) ?_
  refine o_nil ?_
  refine a_block ?_
  refine a_keep [2, 3, 4, 10, 47] rfl ?_
  refine a_range (γ := Bool) hFl 900 rfl rfl rfl rfl rfl [1, 2, 3, 4] (CHr := hhR LS z 0) (fun y => y = decide (z % 20 + 1 ≤ LS.length)) (fun _ => hhR LS z (min LS.length (z % 20 + 1))) stR pdR ⟨rfl, rfl, rfl, rfl, trivial⟩ rfl rfl rfl (fun _ => rfl) (fun _ => rfl) rfl (fun y _ => by cases y <;> simp [stR]) (fun _ _ => ⟨rfl, rfl⟩) [4, 3, 2, 1] hF rfl rfl (fun _ _ => rfl) (fun l A B hA hB => ?_) (fun y hy => ?_)
  · refine (seq1_c (encAll LS) (by omega) l (fun q : Nat × Bool => (900, [.loop ⟨l, 73, [(2, .ptr 1 0 0), (3, .ptr 2 0 0), (4, .ptr 3 0 0), (10, .ptr 4 0 0), (47, .fn 35 [.d (.ptr (bytesD (encAll LS)))])], stR q.2, pdR q.2, #[48, 49], A, B⟩]) :: hhR LS z q.1) [900, 4, 3, 2, 1] (stepR (z % 20)) (0, false) (fun _ => rfl) (fun _ => rfl) (fun _ => rfl) ?_).mono (fun r H' ⟨e1, e2⟩ => ⟨e1, decide (z % 20 + 1 ≤ LS.length), rfl, by rw [e2, feed_rt (LS := LS) _ 0 (Nat.zero_le _) hX (Nat.zero_le _)]⟩)
    refine feeds_rt (s := z % 20) (LS := LS) (fun k off hk => ?_) _ 0 hX
    refine yc_round (lf := 900) rfl rfl rfl rfl fun F hF hr => ?_
    show Awp _ _ A _ _
    rw [hA]
    refine a_region ?_
    refine Pstep.go (st_assign rfl rfl) ?_
    refine o_nil ?_
    refine ⟨rfl, _, _, rfl, rfl, rfl, rfl, ?_⟩
    show Awp _ _ B _ _
    rw [hB]
    refine a_block ?_
    refine a_seq ?_
    refine a_seq ?_
    refine a_region ?_
    refine Pstep.go (st_move rfl rfl) ?_
    first | refine Pstep.go (st_loadD1 rfl rfl on29 rfl) ?_ | refine Pstep.go (st_loadP rfl rfl rfl on29 rfl) ?_ | refine Pstep.go (st_loadR rfl rfl (rfl) rfl on29 rfl) ?_
    first | refine Pstep.go (st_loadD1 rfl rfl on3 rfl) ?_ | refine Pstep.go (st_loadP rfl rfl rfl on3 rfl) ?_ | refine Pstep.go (st_loadR rfl rfl (rfl) rfl on3 rfl) ?_
    first | refine Pstep.go (st_indexD (k) rfl rfl (rfl) (getb hk) Try.underlying29 rfl sz22 rfl) ?_ | refine Pstep.go (st_indexO (k) rfl rfl (rfl) (getb hk) rfl Try.underlying29 sz22 rfl) ?_
    first | refine Pstep.go (st_loadD1 rfl rfl on22 rfl) ?_ | refine Pstep.go (st_loadP rfl rfl rfl on22 rfl) ?_ | refine Pstep.go (st_loadR rfl rfl (rfl) rfl on22 rfl) ?_
    refine Pstep.go (st_callP (same_p LS[k] LS[k] true (by simp)) rfl rfl) ?_
    first | refine Pstep.go (st_notP rfl rfl) ?_ | refine Pstep.go (st_not rfl rfl) ?_
    refine o_nil ?_
    refine a_false rfl (by simp) ?_
    refine a_skip ?_
    refine a_seq ?_
    refine a_region ?_
    first | refine Pstep.go (st_loadD1 rfl rfl on3 rfl) ?_ | refine Pstep.go (st_loadP rfl rfl rfl on3 rfl) ?_ | refine Pstep.go (st_loadR rfl rfl (rfl) rfl on3 rfl) ?_
    refine Pstep.go (st_add rfl rfl (wrapS (k + 1) (by omega)) rfl) ?_
    refine Estep.go (st_storeP rfl rfl rfl rfl rfl rfl rfl sz3) ?_
    refine o_nil ?_
    refine a_seq ?_
    refine a_region ?_
    first | refine Pstep.go (st_loadD1 rfl rfl on3 rfl) ?_ | refine Pstep.go (st_loadP rfl rfl rfl on3 rfl) ?_ | refine Pstep.go (st_loadR rfl rfl (rfl) rfl on3 rfl) ?_
    first | refine Pstep.go (st_loadD1 rfl rfl on5 rfl) ?_ | refine Pstep.go (st_loadP rfl rfl rfl on5 rfl) ?_ | refine Pstep.go (st_loadR rfl rfl (rfl) rfl on5 rfl) ?_
    refine Pstep.go (st_rem rfl rfl (by omega) (tmodN z) rfl) ?_
    refine Pstep.go (st_conv rfl Try.underlying5 Try.underlying3 (IntWalk.i64_in _ (by omega)) rfl) ?_
    first | refine Pstep.go (st_gtr rfl rfl rfl) ?_ | refine Pstep.go (st_gtrS rfl rfl rfl) ?_
    refine o_nil ?_
    first | refine a_if rfl (fun h63 => ?_) (fun h63 => ?_) | refine a_cond rfl (fun h63 => ?_) (fun h63 => ?_)
    · skip
      refine a_exit ?_
      have hgo : ¬ k + 1 ≤ z % 20 := by omega
      have hng : z % 20 < k + 1 := by omega
      exact ⟨some (.exit 0), _, _, [900, 4, 3, 2, 1], _, rfl, rfl, rfl, rfl, rfl, rfl, by rw [decide_eq_false hgo]; rfl, by rw [decide_eq_true hng]; rfl⟩
    · refine a_skip ?_
      have hgo : k + 1 ≤ z % 20 := by omega
      have hng : ¬ z % 20 < k + 1 := by omega
      exact ⟨none, _, _, [900, 4, 3, 2, 1], _, rfl, rfl, rfl, rfl, rfl, rfl, by rw [decide_eq_true hgo]; rfl, by rw [decide_eq_false hng]; rfl⟩
  · rcases y with _ | _
    · refine a_seq ?_
      refine a_region ?_
      first | refine Pstep.go (st_loadD1 rfl rfl on3 rfl) ?_ | refine Pstep.go (st_loadP rfl rfl rfl on3 rfl) ?_ | refine Pstep.go (st_loadR rfl rfl (rfl) rfl on3 rfl) ?_
      first | refine Pstep.go (st_loadD1 rfl rfl on29 rfl) ?_ | refine Pstep.go (st_loadP rfl rfl rfl on29 rfl) ?_ | refine Pstep.go (st_loadR rfl rfl (rfl) rfl on29 rfl) ?_
      first | refine Pstep.go (st_lenMap rfl Try.underlying29 rfl) ?_ | refine Pstep.go (st_lenD rfl rfl Try.underlying29 rfl) ?_ | refine Pstep.go (st_lenO rfl Try.underlying29 rfl) ?_ | refine Pstep.go (st_lenSL rfl Try.underlying29 rfl) ?_ | refine Pstep.go (st_lenS rfl Try.underlying29 rfl) ?_
      first | refine Pstep.go (st_loadD1 rfl rfl on5 rfl) ?_ | refine Pstep.go (st_loadP rfl rfl rfl on5 rfl) ?_ | refine Pstep.go (st_loadR rfl rfl (rfl) rfl on5 rfl) ?_
      refine Pstep.go (st_rem rfl rfl (by omega) (tmodN z) rfl) ?_
      refine Pstep.go (st_conv rfl Try.underlying5 Try.underlying3 (IntWalk.i64_in _ (by omega)) rfl) ?_
      refine Pstep.go (st_add rfl rfl (wrapS (z % 20 + 1) (by omega)) rfl) ?_
      refine Pstep.go (st_min rfl rfl ((show _ = ((min LS.length (z % 20 + 1) : Nat) : Int) by split <;> omega)) rfl) ?_
      first | refine Pstep.go (st_eql rfl rfl rfl) ?_ | refine Pstep.go (st_eqlSL rfl rfl rfl) ?_ | refine Pstep.go (st_eqlS rfl rfl rfl) ?_ | refine Pstep.go (st_eqlB Try.underlying3 rfl rfl rfl) ?_ | refine Pstep.go (st_eqlP Try.underlying3 rfl rfl rfl) ?_ | refine Pstep.go (st_eqlN Try.underlying3 rfl rfl) ?_ | refine Pstep.go (st_eqlF Try.underlying3 rfl rfl rfl) ?_ | refine Pstep.go (st_eqlFN Try.underlying3 rfl rfl) ?_
      refine Estep.go (st_storeP rfl rfl rfl rfl rfl rfl rfl sz4) ?_
      refine o_nil ?_
      refine a_ret ?_
      exact ⟨_, [], [], res_of rfl, rfl, rfl, by simp, rfl⟩
    · show Awp _ _ (.exit 0) _ _
      refine a_exit ?_
      refine a_seq ?_
      refine a_region ?_
      first | refine Pstep.go (st_loadD1 rfl rfl on3 rfl) ?_ | refine Pstep.go (st_loadP rfl rfl rfl on3 rfl) ?_ | refine Pstep.go (st_loadR rfl rfl (rfl) rfl on3 rfl) ?_
      first | refine Pstep.go (st_loadD1 rfl rfl on29 rfl) ?_ | refine Pstep.go (st_loadP rfl rfl rfl on29 rfl) ?_ | refine Pstep.go (st_loadR rfl rfl (rfl) rfl on29 rfl) ?_
      first | refine Pstep.go (st_lenMap rfl Try.underlying29 rfl) ?_ | refine Pstep.go (st_lenD rfl rfl Try.underlying29 rfl) ?_ | refine Pstep.go (st_lenO rfl Try.underlying29 rfl) ?_ | refine Pstep.go (st_lenSL rfl Try.underlying29 rfl) ?_ | refine Pstep.go (st_lenS rfl Try.underlying29 rfl) ?_
      first | refine Pstep.go (st_loadD1 rfl rfl on5 rfl) ?_ | refine Pstep.go (st_loadP rfl rfl rfl on5 rfl) ?_ | refine Pstep.go (st_loadR rfl rfl (rfl) rfl on5 rfl) ?_
      refine Pstep.go (st_rem rfl rfl (by omega) (tmodN z) rfl) ?_
      refine Pstep.go (st_conv rfl Try.underlying5 Try.underlying3 (IntWalk.i64_in _ (by omega)) rfl) ?_
      refine Pstep.go (st_add rfl rfl (wrapS (z % 20 + 1) (by omega)) rfl) ?_
      refine Pstep.go (st_min rfl rfl ((show _ = ((min LS.length (z % 20 + 1) : Nat) : Int) by split <;> omega)) rfl) ?_
      first | refine Pstep.go (st_eql rfl rfl rfl) ?_ | refine Pstep.go (st_eqlSL rfl rfl rfl) ?_ | refine Pstep.go (st_eqlS rfl rfl rfl) ?_ | refine Pstep.go (st_eqlB Try.underlying3 rfl rfl rfl) ?_ | refine Pstep.go (st_eqlP Try.underlying3 rfl rfl rfl) ?_ | refine Pstep.go (st_eqlN Try.underlying3 rfl rfl) ?_ | refine Pstep.go (st_eqlF Try.underlying3 rfl rfl rfl) ?_ | refine Pstep.go (st_eqlFN Try.underlying3 rfl rfl) ?_
      refine Estep.go (st_storeP rfl rfl rfl rfl rfl rfl rfl sz4) ?_
      refine o_nil ?_
      refine a_ret ?_
      exact ⟨_, [], [], res_of rfl, rfl, rfl, by simp, rfl⟩
theorem law9_i (ls : List (List UInt8)) (h1 : ls.length * 24 ≤ 140737488351232) (h2 : ∀ l ∈ ls, l.length ≤ 140737488351232) (z : Int) (hz : IntKind.u8.min ≤ z ∧ z ≤ IntKind.u8.max) : PCalls Try.prog 11 [.d (.sl none (ls.map bytesD)), .d (.raw (.int .u8 z))] (.raw (.bool true)) := by
  have h3 : IntKind.u8.min = 0 := rfl
  have h4 : IntKind.u8.max = 255 := rfl
  obtain ⟨n, rfl⟩ := Int.eq_ofNat_of_zero_le (show 0 ≤ z by omega)
  exact law9_p ls (fun l h => by have := h2 l h; omega) (by omega) n (by omega)
end Go.Proofs.Ytnflcmpdaoobcaa
