/- The walk of CodecSlices. -/
import Derived.Test.YtjbghmlofjkcfaaLawC6
namespace Go.Proofs.Ytjbghmlofjkcfaa
open Go.RowKit

set_option maxHeartbeats 1000000 in
theorem readSlice_nil (mx : Int) (h1 : -9223372036854775808 ≤ mx) (h2 : mx ≤ 9223372036854775807) (b : List UInt8) (s : RSt) (hs : s.1 ≤ b.length) (hb : b.length ≤ 1000000000000) :
    ACalls Try.prog 32 [.ptr 910 0 0, .d (.raw (.int .i64 mx)), .d (.raw .nilFunc)] (rH b s.1 s.2) fun r H' => r = .d (strsD []) ∧ H' = rH b (stN mx false b s).2.1 (stN mx false b s).2.2 := by
  have hv := valueUX mx (.raw .nilFunc) 51 (decN mx false) b s hs hb (decN_fits mx false) (sliceFn_a mx h1 h2 none _ (by rw [List.length_drop]; omega))
  have hn : (stN mx false b s).1 = 0 := by
    have hd : ∀ t, (decN mx false t).1 = 0 := fun t => by
      unfold decN
      split
      · split
        · rfl
        · rfl
      · rfl
    unfold stN stepR
    split
    · split
      · exact hd _
      · rfl
    · rfl
  rw [hn] at hv
  refine a_enter Try.func32 rfl rfl Try.ntmps32 rfl rfl rfl fun F hF => ?_
  refine a_seq ?_
  refine a_region ?_
  refine Estep.go (st_box 920 rfl rfl rfl rfl rfl rfl rfl) ?_
  refine Estep.go (st_box 921 rfl rfl rfl rfl rfl rfl rfl) ?_
  refine Pstep.go (st_assign rfl rfl) ?_
  refine o_nil ?_
  refine a_seq ?_
  refine a_region ?_
  refine Pstep.go (st_move rfl rfl) ?_
  refine Pstep.go (st_makeFunc rfl rfl) ?_
  refine Estep.go (st_callD hv rfl [910, 920, 921] ⟨rfl, rfl, rfl, trivial⟩ rfl rfl rfl rfl rfl rfl rfl rfl rfl) ?_
  refine Pstep.go (st_assign rfl rfl) ?_
  refine o_nil ?_
  refine a_seq ?_
  refine a_region ?_
  refine Pstep.go (st_assign rfl rfl) ?_
  refine o_nil ?_
  refine a_seq ?_
  refine a_seq ?_
  refine a_region ?_
  refine Pstep.go (st_move rfl rfl) ?_
  refine Pstep.go (st_move rfl rfl) ?_
  refine o_nil ?_
  refine a_block ?_
  refine a_loopP (α := Nat) (fun p => ⟨28, [(8, (.d (.sl (some true) []))), (13, (.d (.raw (.int .u64 0)))), (14, (.d (.raw (.int .u64 0))))], [(910, [.blk 65 [.d (bytesD b), .d (.raw (.int .i64 ((stN mx false b s).2.1 : Int))), .d (.raw (.int .i64 ((stN mx false b s).2.2 : Int)))]])]⟩) (fun p => p = 0) (fun p => p) (0) (rfl) (lep_of hF [910] rfl rfl ⟨rfl, rfl, rfl, trivial⟩) ?_
  intro p hI
  refine a_seq ?_
  refine a_region ?_
  first | refine Pstep.go (st_lss rfl rfl rfl) ?_ | refine Pstep.go (st_lssS rfl rfl rfl) ?_
  refine o_nil ?_
  refine a_seq ?_
  refine a_false rfl (rfl) ?_
  refine a_exit ?_
  refine a_seq ?_
  refine a_region ?_
  refine Pstep.go (st_move rfl rfl) ?_
  refine Pstep.go (st_assign rfl rfl) ?_
  refine o_anyNil 6 rfl ?_
  refine o_nil ?_
  refine a_ret ?_
  exact ⟨_, [910], _, res_of rfl, rfl, rfl, rfl, rfl⟩
/-- What ReadSlice makes of an encoding. -/
theorem rdSlice_big {l : List (List UInt8)} (hl : l.length ≤ 1000000) {mx : Int} (h : mx < 0 ∨ mx < l.length) : rdSlice mx (uv l.length ++ encL l) (0, 0) = ([], (0, 5)) := by
  have hn : decN mx true ((uv l.length ++ encL l).drop 0) = (0, 0, 5) := by
    rw [List.drop_zero]
    unfold decN
    rw [rd_uv _ _ (by omega)]
    dsimp only
    rw [if_pos rfl, if_pos (by omega)]
  have h4 : stN mx true (uv l.length ++ encL l) (0, 0) = _ := stepR_clean (decN_clean mx true) _ 0
  unfold rdSlice
  rw [h4, hn]
  rfl
theorem rdSlice_ok {l : List (List UInt8)} (hl : l.length ≤ 1000000) (hx : ∀ x ∈ l, x.length ≤ 1048576) {mx : Int} (h : ¬ (mx < 0 ∨ mx < l.length)) : rdSlice mx (uv l.length ++ encL l) (0, 0) = (l, ((uv l.length ++ encL l).length, 0)) := by
  have hn : decN mx true ((uv l.length ++ encL l).drop 0) = (l.length, (uv l.length).length, 0) := by
    rw [List.drop_zero]
    exact decN_enc _ _ (by omega) mx (by omega)
  have h4 : stN mx true (uv l.length ++ encL l) (0, 0) = _ := stepR_clean (decN_clean mx true) _ 0
  unfold rdSlice
  rw [h4, hn]
  dsimp only
  have hd : (uv l.length ++ encL l).drop (0 + (uv l.length).length) = encL l ++ [] := by rw [Nat.zero_add, List.drop_left, List.append_nil]
  rw [rdList_dec, hd, decL_enc l [] hx]
  rw [if_pos rfl, List.nil_append, Nat.zero_add, List.length_append]
theorem rdSlice_cut {l : List (List UInt8)} (hl : l.length ≤ 4000) (hx : ∀ x ∈ l, x.length ≤ 4000) {c : Nat} (hc : c < (uv l.length ++ encL l).length) : ∃ a, rdSlice 1048576 ((uv l.length ++ encL l).take c) (0, 0) = ([], (a, 19)) := by
  have hv : VSm ⟨4, 0, 0, false, [], l⟩ := ⟨by show 0 < 18446744073709551616; omega, by show (-9223372036854775808 : Int) ≤ 0; omega, by show (0 : Int) ≤ 9223372036854775807; omega, Nat.zero_le _, hl, hx⟩
  have k0 : ¬ (4 : Int) = 0 := by decide
  have k1 : ¬ (4 : Int) = 1 := by decide
  have k2 : ¬ (4 : Int) = 2 := by decide
  have k3 : ¬ (4 : Int) = 3 := by decide
  have he : enc (pureC ⟨4, 0, 0, false, [], l⟩) = uv l.length ++ encL l := encP4 k0 k1 k2 k3
  have hk : kindOf ⟨4, 0, 0, false, [], l⟩ = 4 := by unfold kindOf; rw [if_neg]; simp
  have h19 := decV_cut hv c (by rw [he]; exact hc) 1048576 (by omega)
  rw [he, hk] at h19
  have h1 := takeV_dec 1048576 ((uv l.length ++ encL l).take c) 4 0
  rw [List.drop_zero] at h1
  have h2 := takeV4 (mx := 1048576) (b := (uv l.length ++ encL l).take c) (s := (0, 0)) k0 k1 k2 k3
  rw [h1] at h2
  have h3 := decV_err (mx := 1048576) (k := 4) (t := (uv l.length ++ encL l).take c) (by rw [h19]; decide)
  have e1 : (rdSlice 1048576 ((uv l.length ++ encL l).take c) (0, 0)).1 = [] := by
    have := congrArg (fun x => x.1.l) h2
    dsimp only at this
    rw [← this, h3]; rfl
  have e2 : (rdSlice 1048576 ((uv l.length ++ encL l).take c) (0, 0)).2.2 = 19 := by
    have := congrArg (fun x => x.2.2) h2
    dsimp only at this
    rw [← this, h19]
  exact ⟨_, Prod.ext e1 (Prod.ext rfl e2)⟩
set_option maxHeartbeats 4000000 in
theorem slices_p (l : List (List UInt8)) (mx : Int) (n : Nat) (hn : n ≤ 65535) (hl0 : l.length ≤ 140737488351232) (hx0 : ∀ x ∈ l, x.length ≤ 140737488351232) (h1 : -9223372036854775808 ≤ mx) (h2 : mx ≤ 9223372036854775807) : PCalls Try.prog 5 [.d (strsD l), .d (.raw (.int .i64 mx)), .d (.raw (.int .u16 (n : Int)))] (.raw (.bool true)) := by
  have hvi : VIn ⟨4, 0, 0, false, [], l⟩ := ⟨by show 0 < 18446744073709551616; omega, by show (-9223372036854775808 : Int) ≤ 4; omega, by show (4 : Int) ≤ 9223372036854775807; omega, by show (-9223372036854775808 : Int) ≤ 0; omega, by show (0 : Int) ≤ 9223372036854775807; omega, Nat.zero_le _, hl0, hx0⟩
  have hsp := small_p [⟨4, 0, 0, false, [], l⟩] (by show 1 ≤ _; omega) (fun v hv => by rw [List.mem_singleton.1 hv]; exact hvi)
  refine a_enter Try.func5 rfl rfl Try.ntmps5 rfl rfl rfl fun F hF => ?_
  refine a_seq ?_
  refine a_region ?_
  refine Pstep.go (st_assign rfl rfl) ?_
  refine o_nil ?_
  refine a_seq ?_
  refine a_seq ?_
  refine a_region ?_
  refine Pstep.go (st_callP (known_p) rfl rfl) ?_
  first | refine Pstep.go (st_notP rfl rfl) ?_ | refine Pstep.go (st_not rfl rfl) ?_
  refine Pstep.go (st_move rfl rfl) ?_
  refine o_setF 16 rfl (rfl) ?_
  refine o_run rfl rfl rfl ?_
  refine Pstep.go (st_move rfl rfl) ?_
  refine o_run rfl rfl rfl ?_
  refine Pstep.go (st_build zl32 pl32 rfl rfl rfl) ?_
  refine o_run rfl rfl rfl ?_
  refine Estep.go (st_buildSlice 960 sl22 rfl rfl rfl rfl rfl rfl rfl rfl) ?_
  refine o_freezeM (emb := vD) 19 960 [⟨4, 0, 0, false, [], l⟩] rfl rfl rfl rfl rfl rfl rfl ?_
  refine o_run rfl rfl rfl ?_
  refine Pstep.go (st_callP (hsp) rfl rfl) ?_
  refine o_run rfl rfl rfl ?_
  first | refine Pstep.go (st_notP rfl rfl) ?_ | refine Pstep.go (st_not rfl rfl) ?_
  refine Pstep.go (st_pickF rfl rfl rfl rfl) ?_
  refine o_nil ?_
  first | refine a_if rfl (fun h22 => ?_) (fun h22 => ?_) | refine a_cond rfl (fun h22 => ?_) (fun h22 => ?_)
  · refine a_seq ?_
    refine a_region ?_
    refine Pstep.go (st_callP (known_p) rfl rfl) ?_
    refine Pstep.go (st_assign rfl rfl) ?_
    refine o_nil ?_
    refine a_ret ?_
    exact ⟨_, [], [], res_of rfl, rfl, rfl, rfl, rfl⟩
  · refine a_skip ?_
    refine a_seq ?_
    have hsm : tot [⟨4, 0, 0, false, [], l⟩] ≤ 4000 := by have h := h22; omega
    have hvs : vsz ⟨4, 0, 0, false, [], l⟩ ≤ 4000 := Nat.le_trans (tot_mem (List.mem_singleton.2 rfl)) hsm
    have hl : l.length ≤ 4000 := by unfold vsz at hvs; dsimp only at hvs; omega
    have hx : ∀ x ∈ l, x.length ≤ 4000 := fun x hx => by have := sumL_mem hx; unfold vsz at hvs; dsimp only at hvs; omega
    have hel := encL_len l (fun x hh => by have := hx x hh; omega)
    have hul := uv_len10 (show l.length < 18446744073709551616 by omega)
    have hel2 : (encL l).length ≤ 50000 := by unfold vsz at hvs; dsimp only at hvs; omega
    obtain ⟨Z, hZ⟩ : ∃ Z, Z = uv l.length ++ encL l := ⟨_, rfl⟩
    have hZl : Z.length ≤ 60000 := by rw [hZ, List.length_append]; omega
    have hZ1 : 0 < (uv l.length).length := by by_cases e : l.length < 128; rw [uv_lt e]; simp; rw [uv_ge e]; simp
    have hZ0 : 0 < Z.length := by rw [hZ, List.length_append]; omega
    have c1 := writeSlice_900 [] l (Nat.zero_le _) (by omega) (by omega)
    rw [List.nil_append, ← hZ] at c1
    have c2 := writeSlice_nil [] l (Nat.zero_le _) (by omega)
    rw [List.nil_append] at c2
    refine a_region ?_
    refine Estep.go (st_callD newWriter_900 rfl [900, 901] ⟨rfl, rfl, trivial⟩ rfl rfl rfl rfl rfl rfl rfl rfl rfl) ?_
    refine Pstep.go (st_assign rfl rfl) ?_
    refine o_nil ?_
    refine a_seq ?_
    refine a_region ?_
    refine Pstep.go (st_move rfl rfl) ?_
    refine Pstep.go (st_move rfl rfl) ?_
    refine Estep.go (st_callD c1 rfl [900, 901] ⟨rfl, rfl, trivial⟩ rfl rfl rfl rfl rfl rfl rfl rfl rfl) ?_
    refine o_nil ?_
    refine a_seq ?_
    refine a_region ?_
    refine Pstep.go (st_move rfl rfl) ?_
    refine Estep.go (st_callD (wBytes_900 Z (by omega)) rfl [900, 901, 902] ⟨rfl, rfl, rfl, trivial⟩ rfl rfl rfl rfl rfl rfl rfl rfl rfl) ?_
    refine o_freezeM (emb := byteD) 29 902 Z rfl rfl rfl rfl rfl rfl rfl ?_
    refine Pstep.go (st_assign rfl rfl) ?_
    refine o_nil ?_
    refine a_seq ?_
    refine a_region ?_
    refine Pstep.go (st_move rfl rfl) ?_
    refine Estep.go (st_callD (newReader_p Z (by omega)) rfl [910] ⟨rfl, trivial⟩ rfl rfl rfl rfl rfl rfl rfl rfl rfl) ?_
    refine Pstep.go (st_assign rfl rfl) ?_
    refine o_nil ?_
    refine a_seq ?_
    refine a_region ?_
    have c3 := readSlice_910 mx h1 h2 Z (0, 0) (Nat.zero_le _) (by omega)
    by_cases hbig : mx < 0 ∨ mx < l.length
    · refine Pstep.go (st_move rfl rfl) ?_
      rw [hZ, rdSlice_big (by omega) hbig, ← hZ] at c3
      refine Pstep.go (st_move rfl rfl) ?_
      refine Estep.go (st_callD c3 rfl [910] ⟨rfl, trivial⟩ rfl rfl rfl rfl rfl rfl rfl rfl rfl) ?_
      refine Pstep.go (st_assign rfl rfl) ?_
      refine o_nil ?_
      refine a_seq ?_
      refine a_seq ?_
      refine a_region ?_
      refine Pstep.go (st_move rfl rfl) ?_
      first | refine Pstep.go (st_lss rfl rfl rfl) ?_ | refine Pstep.go (st_lssS rfl rfl rfl) ?_
      refine Pstep.go (st_move rfl rfl) ?_
      first | refine o_splitP 37 rfl (fun h37 => ?_) (fun h37 => ?_) | refine o_splitB 37 rfl (fun h37 => ?_) (fun h37 => ?_)
      · refine o_pass rfl rfl rfl rfl ?_
        refine o_pass rfl rfl rfl rfl ?_
        refine o_pass rfl rfl rfl rfl ?_
        refine o_pass rfl rfl rfl rfl ?_
        refine Pstep.go (st_pickT rfl rfl rfl rfl) ?_
        refine o_nil ?_
        refine a_true rfl rfl ?_
        refine a_seq ?_
        refine a_region ?_
        refine Pstep.go (st_move rfl rfl) ?_
        first | refine Pstep.go (st_lenMap rfl Try.underlying30 rfl) ?_ | refine Pstep.go (st_lenD rfl rfl Try.underlying30 rfl) ?_ | refine Pstep.go (st_lenO rfl Try.underlying30 rfl) ?_ | refine Pstep.go (st_lenSL rfl Try.underlying30 rfl) ?_ | refine Pstep.go (st_lenS rfl Try.underlying30 rfl) ?_
        first | refine Pstep.go (st_neq rfl rfl rfl) ?_ | refine Pstep.go (st_neqSL rfl rfl rfl) ?_ | refine Pstep.go (st_neqS rfl rfl rfl) ?_ | refine Pstep.go (st_neqB Try.underlying3 rfl rfl rfl) ?_ | refine Pstep.go (st_neqP Try.underlying3 rfl rfl rfl) ?_ | refine Pstep.go (st_neqN Try.underlying3 rfl rfl) ?_ | refine Pstep.go (st_neqF Try.underlying3 rfl rfl rfl) ?_ | refine Pstep.go (st_neqFN Try.underlying3 rfl rfl) ?_
        refine Pstep.go (st_move rfl rfl) ?_
        refine o_setF 46 rfl (by simp) ?_
        refine o_run rfl rfl rfl ?_
        refine Pstep.go (st_move rfl rfl) ?_
        refine o_run rfl rfl rfl ?_
        refine Estep.go (st_callD (rErr_910 Z (0, 5)) rfl [910] ⟨rfl, trivial⟩ rfl rfl rfl rfl rfl rfl rfl rfl rfl) ?_
        refine o_run rfl rfl rfl ?_
        first | refine Pstep.go (st_neq rfl rfl rfl) ?_ | refine Pstep.go (st_neqSL rfl rfl rfl) ?_ | refine Pstep.go (st_neqS rfl rfl rfl) ?_ | refine Pstep.go (st_neqB Try.underlying38 rfl rfl rfl) ?_ | refine Pstep.go (st_neqP Try.underlying38 rfl rfl rfl) ?_ | refine Pstep.go (st_neqN Try.underlying38 rfl rfl) ?_ | refine Pstep.go (st_neqF Try.underlying38 rfl rfl rfl) ?_ | refine Pstep.go (st_neqFN Try.underlying38 rfl rfl) ?_
        refine Pstep.go (st_pickF rfl rfl rfl rfl) ?_
        refine Pstep.go (st_move rfl rfl) ?_
        refine o_setF 51 rfl (rfl) ?_
        refine o_run rfl rfl rfl ?_
        refine Pstep.go (st_move rfl rfl) ?_
        refine o_run rfl rfl rfl ?_
        refine Estep.go (st_callD (rOffset_910 Z (0, 5)) rfl [910] ⟨rfl, trivial⟩ rfl rfl rfl rfl rfl rfl rfl rfl rfl) ?_
        refine o_run rfl rfl rfl ?_
        first | refine Pstep.go (st_neq rfl rfl rfl) ?_ | refine Pstep.go (st_neqSL rfl rfl rfl) ?_ | refine Pstep.go (st_neqS rfl rfl rfl) ?_ | refine Pstep.go (st_neqB Try.underlying3 rfl rfl rfl) ?_ | refine Pstep.go (st_neqP Try.underlying3 rfl rfl rfl) ?_ | refine Pstep.go (st_neqN Try.underlying3 rfl rfl) ?_ | refine Pstep.go (st_neqF Try.underlying3 rfl rfl rfl) ?_ | refine Pstep.go (st_neqFN Try.underlying3 rfl rfl) ?_
        refine Pstep.go (st_pickF rfl rfl rfl rfl) ?_
        refine o_nil ?_
        refine a_false rfl (rfl) ?_
        refine a_skip ?_
        refine a_seq ?_
        refine a_only [] hF rfl rfl ?_
        refine a_region ?_
        refine Pstep.go (st_move rfl rfl) ?_
        refine Estep.go (st_callD (newReader_p Z (by omega)) rfl [910] ⟨rfl, trivial⟩ rfl rfl rfl rfl rfl rfl rfl rfl rfl) ?_
        refine Pstep.go (st_assign rfl rfl) ?_
        refine o_nil ?_
        refine a_seq ?_
        refine a_seq ?_
        have c4 := readSlice_nil 1048576 (by omega) (by omega) Z (0, 0) (Nat.zero_le _) (by omega)
        have hn1 : stN 1048576 false Z (0, 0) = (0, (0, 1)) := by
          have hd : decN 1048576 false (Z.drop 0) = (0, 0, 1) := by (rw [List.drop_zero, hZ]; unfold decN; rw [rd_uv _ _ (by omega)]; dsimp only; rw [if_pos rfl, if_neg (by omega)]; rfl)
          have h4 : stN 1048576 false Z (0, 0) = _ := stepR_clean (decN_clean 1048576 false) _ 0
          rw [h4, hd]; rfl
        rw [hn1] at c4
        refine a_region ?_
        refine Pstep.go (st_move rfl rfl) ?_
        refine Estep.go (st_callD c4 rfl [910] ⟨rfl, trivial⟩ rfl rfl rfl rfl rfl rfl rfl rfl rfl) ?_
        first | refine Pstep.go (st_lenMap rfl Try.underlying30 rfl) ?_ | refine Pstep.go (st_lenD rfl rfl Try.underlying30 rfl) ?_ | refine Pstep.go (st_lenO rfl Try.underlying30 rfl) ?_ | refine Pstep.go (st_lenSL rfl Try.underlying30 rfl) ?_ | refine Pstep.go (st_lenS rfl Try.underlying30 rfl) ?_
        first | refine Pstep.go (st_neq rfl rfl rfl) ?_ | refine Pstep.go (st_neqSL rfl rfl rfl) ?_ | refine Pstep.go (st_neqS rfl rfl rfl) ?_ | refine Pstep.go (st_neqB Try.underlying3 rfl rfl rfl) ?_ | refine Pstep.go (st_neqP Try.underlying3 rfl rfl rfl) ?_ | refine Pstep.go (st_neqN Try.underlying3 rfl rfl) ?_ | refine Pstep.go (st_neqF Try.underlying3 rfl rfl rfl) ?_ | refine Pstep.go (st_neqFN Try.underlying3 rfl rfl) ?_
        refine Pstep.go (st_move rfl rfl) ?_
        refine o_setF 73 rfl (rfl) ?_
        refine o_run rfl rfl rfl ?_
        refine Pstep.go (st_move rfl rfl) ?_
        refine o_run rfl rfl rfl ?_
        refine Estep.go (st_callD (rErr_910 Z (0, 1)) rfl [910] ⟨rfl, trivial⟩ rfl rfl rfl rfl rfl rfl rfl rfl rfl) ?_
        refine o_run rfl rfl rfl ?_
        first | refine Pstep.go (st_neq rfl rfl rfl) ?_ | refine Pstep.go (st_neqSL rfl rfl rfl) ?_ | refine Pstep.go (st_neqS rfl rfl rfl) ?_ | refine Pstep.go (st_neqB Try.underlying38 rfl rfl rfl) ?_ | refine Pstep.go (st_neqP Try.underlying38 rfl rfl rfl) ?_ | refine Pstep.go (st_neqN Try.underlying38 rfl rfl) ?_ | refine Pstep.go (st_neqF Try.underlying38 rfl rfl rfl) ?_ | refine Pstep.go (st_neqFN Try.underlying38 rfl rfl) ?_
        refine Pstep.go (st_pickF rfl rfl rfl rfl) ?_
        refine o_nil ?_
        refine a_false rfl (rfl) ?_
        refine a_skip ?_
        refine a_seq ?_
        refine a_only [] hF rfl rfl ?_
        refine a_region ?_
        refine Estep.go (st_callD newWriter_900 rfl [900, 901] ⟨rfl, rfl, trivial⟩ rfl rfl rfl rfl rfl rfl rfl rfl rfl) ?_
        refine Pstep.go (st_assign rfl rfl) ?_
        refine o_nil ?_
        refine a_seq ?_
        refine a_region ?_
        refine Pstep.go (st_move rfl rfl) ?_
        refine Pstep.go (st_move rfl rfl) ?_
        refine Estep.go (st_callD c2 rfl [900, 901] ⟨rfl, rfl, trivial⟩ rfl rfl rfl rfl rfl rfl rfl rfl rfl) ?_
        refine o_nil ?_
        refine a_seq ?_
        refine a_seq ?_
        refine a_drawn [[], [0], [0, 1], [], [3], [3, 4], [0, 1, 3, 4, 5], [0, 1, 3, 4, 5, 6], [0, 1, 2, 3, 4, 5, 6, 7]] mixed rfl ?_
        refine dws ?_
        first | refine d_pure [12] [] rfl rfl (fun _ => gp_none (st_move rfl rfl)) ?_ | refine d_pureA [12] rfl rfl (fun _ => gp_none (st_move rfl rfl)) ?_
        refine d_eff [82] [900, 901, 902] [(83, _)] rfl rfl (fun _ => ge_none (st_callD (wBytes_900 (uv l.length) (by omega)) rfl [900, 901, 902] ⟨rfl, rfl, rfl, trivial⟩ rfl rfl rfl rfl rfl rfl rfl rfl rfl)) (.inr ⟨83, _, rfl, rfl, rfl, rfl, rfl⟩) rfl rfl rfl rfl rfl ?_
        refine d_pure [83] [902] rfl rfl (fun _ => gp_none (st_convBSO (uv l.length) rfl rfl (by simp) rfl Try.underlying27 Try.underlying5 Try.underlying9 rfl)) ?_
        first | refine d_pure [0] [] rfl rfl (fun _ => gp_none (st_move rfl rfl)) ?_ | refine d_pureA [0] rfl rfl (fun _ => gp_none (st_move rfl rfl)) ?_
        first | refine d_pure [85] [] rfl rfl (fun _ => gp_none (st_lenMap rfl Try.underlying30 rfl)) ?_ | refine d_pureA [85] rfl rfl (fun _ => gp_none (st_lenMap rfl Try.underlying30 rfl)) ?_ | refine d_pure [85] [] rfl rfl (fun _ => gp_none (st_lenD rfl rfl Try.underlying30 rfl)) ?_ | refine d_pureA [85] rfl rfl (fun _ => gp_none (st_lenD rfl rfl Try.underlying30 rfl)) ?_ | refine d_pure [85] [] rfl rfl (fun _ => gp_none (st_lenO rfl Try.underlying30 rfl)) ?_ | refine d_pureA [85] rfl rfl (fun _ => gp_none (st_lenO rfl Try.underlying30 rfl)) ?_ | refine d_pure [85] [] rfl rfl (fun _ => gp_none (st_lenSL rfl Try.underlying30 rfl)) ?_ | refine d_pureA [85] rfl rfl (fun _ => gp_none (st_lenSL rfl Try.underlying30 rfl)) ?_ | refine d_pure [85] [] rfl rfl (fun _ => gp_none (st_lenS rfl Try.underlying30 rfl)) ?_ | refine d_pureA [85] rfl rfl (fun _ => gp_none (st_lenS rfl Try.underlying30 rfl)) ?_
        first | refine d_pure [86] [] rfl rfl (fun _ => gp_none (st_conv rfl Try.underlying3 Try.underlying29 (wrap64n l.length (by omega)) rfl)) ?_ | refine d_pureA [86] rfl rfl (fun _ => gp_none (st_conv rfl Try.underlying3 Try.underlying29 (wrap64n l.length (by omega)) rfl)) ?_
        refine d_eff [87] [903] [(88, _)] rfl rfl (fun _ => ge_none (st_callD (uint902 l.length (by omega)) rfl [903] ⟨rfl, trivial⟩ rfl rfl rfl rfl rfl rfl rfl rfl rfl)) (.inr ⟨88, _, rfl, rfl, rfl, rfl, rfl⟩) rfl rfl rfl rfl rfl ?_
        refine d_pure [88] [903] rfl rfl (fun _ => gp_none (st_convBSO (uv l.length) rfl rfl (by simp) rfl Try.underlying27 Try.underlying5 Try.underlying9 rfl)) ?_
        refine dwc 8 rfl rfl rfl ?_
        refine dw1 9 rfl rfl ?_
        first | refine Pstep.go (st_neq rfl rfl rfl) ?_ | refine Pstep.go (st_neqSL rfl rfl rfl) ?_ | refine Pstep.go (st_neqS rfl rfl rfl) ?_ | refine Pstep.go (st_neqB Try.underlying9 rfl rfl rfl) ?_ | refine Pstep.go (st_neqP Try.underlying9 rfl rfl rfl) ?_ | refine Pstep.go (st_neqN Try.underlying9 rfl rfl) ?_ | refine Pstep.go (st_neqF Try.underlying9 rfl rfl rfl) ?_ | refine Pstep.go (st_neqFN Try.underlying9 rfl rfl) ?_
        refine o_nil ⟨rfl, ?_⟩
        refine dwe ?_
        refine a_false rfl (decide_eq_false (by simp)) ?_
        refine a_skip ?_
        refine a_seq ?_
        refine a_seq ?_
        refine a_region ?_
        refine Pstep.go (st_move rfl rfl) ?_
        first | refine Pstep.go (st_lenMap rfl Try.underlying27 rfl) ?_ | refine Pstep.go (st_lenD rfl rfl Try.underlying27 rfl) ?_ | refine Pstep.go (st_lenO rfl Try.underlying27 rfl) ?_ | refine Pstep.go (st_lenSL rfl Try.underlying27 rfl) ?_ | refine Pstep.go (st_lenS rfl Try.underlying27 rfl) ?_
        first | refine Pstep.go (st_eql rfl rfl rfl) ?_ | refine Pstep.go (st_eqlSL rfl rfl rfl) ?_ | refine Pstep.go (st_eqlS rfl rfl rfl) ?_ | refine Pstep.go (st_eqlB Try.underlying3 rfl rfl rfl) ?_ | refine Pstep.go (st_eqlP Try.underlying3 rfl rfl rfl) ?_ | refine Pstep.go (st_eqlN Try.underlying3 rfl rfl) ?_ | refine Pstep.go (st_eqlF Try.underlying3 rfl rfl rfl) ?_ | refine Pstep.go (st_eqlFN Try.underlying3 rfl rfl) ?_
        refine o_nil ?_
        refine a_false rfl (decide_eq_false (by omega)) ?_
        refine a_skip ?_
        refine a_seq ?_
        refine a_only [] hF rfl rfl ?_
        obtain ⟨c, hc⟩ : ∃ c, c = n % Z.length := ⟨_, rfl⟩
        have hcl : c < Z.length := by rw [hc]; exact Nat.mod_lt _ hZ0
        refine a_region ?_
        refine Pstep.go (st_move rfl rfl) ?_
        refine Pstep.go (st_move rfl rfl) ?_
        refine Pstep.go (st_conv rfl Try.underlying47 Try.underlying3 (IntWalk.i64_in _ (by omega)) rfl) ?_
        refine Pstep.go (st_move rfl rfl) ?_
        first | refine Pstep.go (st_lenMap rfl Try.underlying27 rfl) ?_ | refine Pstep.go (st_lenD rfl rfl Try.underlying27 rfl) ?_ | refine Pstep.go (st_lenO rfl Try.underlying27 rfl) ?_ | refine Pstep.go (st_lenSL rfl Try.underlying27 rfl) ?_ | refine Pstep.go (st_lenS rfl Try.underlying27 rfl) ?_
        refine Pstep.go (st_rem rfl rfl (by omega) (show ((n : Nat) : Int).tmod ((Z.length : Nat) : Int) = ((n % Z.length : Nat) : Int) from rfl) rfl) ?_
        refine o_weakD 99 (.raw (.int .i64 (c : Int))) rfl (fun _ _ _ h => by rw [hc]; exact h) ?_
        refine Pstep.go (st_sliceHiM (Z) (c) rfl rfl rfl (rfl) (by omega) Try.underlying27 sz5 (fun _ => rfl) rfl) ?_
        have hbl : (Z.take c).length ≤ 60000 := by rw [List.length_take]; omega
        refine Estep.go (st_callD (newReader_p (Z.take c) (by omega)) rfl [910] ⟨rfl, trivial⟩ rfl rfl rfl rfl rfl rfl rfl rfl rfl) ?_
        refine Pstep.go (st_assign rfl rfl) ?_
        refine o_nil ?_
        refine a_seq ?_
        have c5 := readSlice_910 1048576 (by omega) (by omega) (Z.take c) (0, 0) (Nat.zero_le _) (by omega)
        have hcut := rdSlice_cut hl hx (c := c) (by rw [← hZ]; exact hcl)
        obtain ⟨sa, hsa⟩ := hcut
        rw [← hZ] at hsa
        rw [hsa] at c5
        refine a_region ?_
        refine Pstep.go (st_move rfl rfl) ?_
        refine Estep.go (st_callD c5 rfl [910] ⟨rfl, trivial⟩ rfl rfl rfl rfl rfl rfl rfl rfl rfl) ?_
        first | refine Pstep.go (st_lenMap rfl Try.underlying30 rfl) ?_ | refine Pstep.go (st_lenD rfl rfl Try.underlying30 rfl) ?_ | refine Pstep.go (st_lenO rfl Try.underlying30 rfl) ?_ | refine Pstep.go (st_lenSL rfl Try.underlying30 rfl) ?_ | refine Pstep.go (st_lenS rfl Try.underlying30 rfl) ?_
        first | refine Pstep.go (st_eql rfl rfl rfl) ?_ | refine Pstep.go (st_eqlSL rfl rfl rfl) ?_ | refine Pstep.go (st_eqlS rfl rfl rfl) ?_ | refine Pstep.go (st_eqlB Try.underlying3 rfl rfl rfl) ?_ | refine Pstep.go (st_eqlP Try.underlying3 rfl rfl rfl) ?_ | refine Pstep.go (st_eqlN Try.underlying3 rfl rfl) ?_ | refine Pstep.go (st_eqlF Try.underlying3 rfl rfl rfl) ?_ | refine Pstep.go (st_eqlFN Try.underlying3 rfl rfl) ?_
        refine Pstep.go (st_move rfl rfl) ?_
        refine o_setT 106 rfl (rfl) ?_
        refine o_run rfl rfl rfl ?_
        refine Pstep.go (st_move rfl rfl) ?_
        refine o_run rfl rfl rfl ?_
        refine Estep.go (st_callD (rErr_910 (Z.take c) (sa, 19)) rfl [910] ⟨rfl, trivial⟩ rfl rfl rfl rfl rfl rfl rfl rfl rfl) ?_
        refine o_run rfl rfl rfl ?_
        first | refine Pstep.go (st_eql rfl rfl rfl) ?_ | refine Pstep.go (st_eqlSL rfl rfl rfl) ?_ | refine Pstep.go (st_eqlS rfl rfl rfl) ?_ | refine Pstep.go (st_eqlB Try.underlying38 rfl rfl rfl) ?_ | refine Pstep.go (st_eqlP Try.underlying38 rfl rfl rfl) ?_ | refine Pstep.go (st_eqlN Try.underlying38 rfl rfl) ?_ | refine Pstep.go (st_eqlF Try.underlying38 rfl rfl rfl) ?_ | refine Pstep.go (st_eqlFN Try.underlying38 rfl rfl) ?_
        refine Pstep.go (st_pickT rfl rfl rfl rfl) ?_
        refine Pstep.go (st_assign rfl rfl) ?_
        refine o_nil ?_
        refine a_ret ?_
        exact ⟨_, [], [], res_of rfl, rfl, rfl, rfl, rfl⟩
      · refine o_run rfl rfl rfl ?_
        refine Pstep.go (st_move rfl rfl) ?_
        refine o_run rfl rfl rfl ?_
        first | refine Pstep.go (st_lenMap rfl Try.underlying30 rfl) ?_ | refine Pstep.go (st_lenD rfl rfl Try.underlying30 rfl) ?_ | refine Pstep.go (st_lenO rfl Try.underlying30 rfl) ?_ | refine Pstep.go (st_lenSL rfl Try.underlying30 rfl) ?_ | refine Pstep.go (st_lenS rfl Try.underlying30 rfl) ?_
        refine o_run rfl rfl rfl ?_
        refine Pstep.go (st_move rfl rfl) ?_
        refine o_run rfl rfl rfl ?_
        first | refine Pstep.go (st_gtr rfl rfl rfl) ?_ | refine Pstep.go (st_gtrS rfl rfl rfl) ?_
        refine Pstep.go (st_pickF rfl rfl rfl rfl) ?_
        refine o_nil ?_
        refine a_true rfl (decide_eq_true (by have h := h37; omega)) ?_
        refine a_seq ?_
        refine a_region ?_
        refine Pstep.go (st_move rfl rfl) ?_
        first | refine Pstep.go (st_lenMap rfl Try.underlying30 rfl) ?_ | refine Pstep.go (st_lenD rfl rfl Try.underlying30 rfl) ?_ | refine Pstep.go (st_lenO rfl Try.underlying30 rfl) ?_ | refine Pstep.go (st_lenSL rfl Try.underlying30 rfl) ?_ | refine Pstep.go (st_lenS rfl Try.underlying30 rfl) ?_
        first | refine Pstep.go (st_neq rfl rfl rfl) ?_ | refine Pstep.go (st_neqSL rfl rfl rfl) ?_ | refine Pstep.go (st_neqS rfl rfl rfl) ?_ | refine Pstep.go (st_neqB Try.underlying3 rfl rfl rfl) ?_ | refine Pstep.go (st_neqP Try.underlying3 rfl rfl rfl) ?_ | refine Pstep.go (st_neqN Try.underlying3 rfl rfl) ?_ | refine Pstep.go (st_neqF Try.underlying3 rfl rfl rfl) ?_ | refine Pstep.go (st_neqFN Try.underlying3 rfl rfl) ?_
        refine Pstep.go (st_move rfl rfl) ?_
        refine o_setF 46 rfl (by simp) ?_
        refine o_run rfl rfl rfl ?_
        refine Pstep.go (st_move rfl rfl) ?_
        refine o_run rfl rfl rfl ?_
        refine Estep.go (st_callD (rErr_910 Z (0, 5)) rfl [910] ⟨rfl, trivial⟩ rfl rfl rfl rfl rfl rfl rfl rfl rfl) ?_
        refine o_run rfl rfl rfl ?_
        first | refine Pstep.go (st_neq rfl rfl rfl) ?_ | refine Pstep.go (st_neqSL rfl rfl rfl) ?_ | refine Pstep.go (st_neqS rfl rfl rfl) ?_ | refine Pstep.go (st_neqB Try.underlying38 rfl rfl rfl) ?_ | refine Pstep.go (st_neqP Try.underlying38 rfl rfl rfl) ?_ | refine Pstep.go (st_neqN Try.underlying38 rfl rfl) ?_ | refine Pstep.go (st_neqF Try.underlying38 rfl rfl rfl) ?_ | refine Pstep.go (st_neqFN Try.underlying38 rfl rfl) ?_
        refine Pstep.go (st_pickF rfl rfl rfl rfl) ?_
        refine Pstep.go (st_move rfl rfl) ?_
        refine o_setF 51 rfl (rfl) ?_
        refine o_run rfl rfl rfl ?_
        refine Pstep.go (st_move rfl rfl) ?_
        refine o_run rfl rfl rfl ?_
        refine Estep.go (st_callD (rOffset_910 Z (0, 5)) rfl [910] ⟨rfl, trivial⟩ rfl rfl rfl rfl rfl rfl rfl rfl rfl) ?_
        refine o_run rfl rfl rfl ?_
        first | refine Pstep.go (st_neq rfl rfl rfl) ?_ | refine Pstep.go (st_neqSL rfl rfl rfl) ?_ | refine Pstep.go (st_neqS rfl rfl rfl) ?_ | refine Pstep.go (st_neqB Try.underlying3 rfl rfl rfl) ?_ | refine Pstep.go (st_neqP Try.underlying3 rfl rfl rfl) ?_ | refine Pstep.go (st_neqN Try.underlying3 rfl rfl) ?_ | refine Pstep.go (st_neqF Try.underlying3 rfl rfl rfl) ?_ | refine Pstep.go (st_neqFN Try.underlying3 rfl rfl) ?_
        refine Pstep.go (st_pickF rfl rfl rfl rfl) ?_
        refine o_nil ?_
        refine a_false rfl (rfl) ?_
        refine a_skip ?_
        refine a_seq ?_
        refine a_only [] hF rfl rfl ?_
        refine a_region ?_
        refine Pstep.go (st_move rfl rfl) ?_
        refine Estep.go (st_callD (newReader_p Z (by omega)) rfl [910] ⟨rfl, trivial⟩ rfl rfl rfl rfl rfl rfl rfl rfl rfl) ?_
        refine Pstep.go (st_assign rfl rfl) ?_
        refine o_nil ?_
        refine a_seq ?_
        refine a_seq ?_
        have c4 := readSlice_nil 1048576 (by omega) (by omega) Z (0, 0) (Nat.zero_le _) (by omega)
        have hn1 : stN 1048576 false Z (0, 0) = (0, (0, 1)) := by
          have hd : decN 1048576 false (Z.drop 0) = (0, 0, 1) := by (rw [List.drop_zero, hZ]; unfold decN; rw [rd_uv _ _ (by omega)]; dsimp only; rw [if_pos rfl, if_neg (by omega)]; rfl)
          have h4 : stN 1048576 false Z (0, 0) = _ := stepR_clean (decN_clean 1048576 false) _ 0
          rw [h4, hd]; rfl
        rw [hn1] at c4
        refine a_region ?_
        refine Pstep.go (st_move rfl rfl) ?_
        refine Estep.go (st_callD c4 rfl [910] ⟨rfl, trivial⟩ rfl rfl rfl rfl rfl rfl rfl rfl rfl) ?_
        first | refine Pstep.go (st_lenMap rfl Try.underlying30 rfl) ?_ | refine Pstep.go (st_lenD rfl rfl Try.underlying30 rfl) ?_ | refine Pstep.go (st_lenO rfl Try.underlying30 rfl) ?_ | refine Pstep.go (st_lenSL rfl Try.underlying30 rfl) ?_ | refine Pstep.go (st_lenS rfl Try.underlying30 rfl) ?_
        first | refine Pstep.go (st_neq rfl rfl rfl) ?_ | refine Pstep.go (st_neqSL rfl rfl rfl) ?_ | refine Pstep.go (st_neqS rfl rfl rfl) ?_ | refine Pstep.go (st_neqB Try.underlying3 rfl rfl rfl) ?_ | refine Pstep.go (st_neqP Try.underlying3 rfl rfl rfl) ?_ | refine Pstep.go (st_neqN Try.underlying3 rfl rfl) ?_ | refine Pstep.go (st_neqF Try.underlying3 rfl rfl rfl) ?_ | refine Pstep.go (st_neqFN Try.underlying3 rfl rfl) ?_
        refine Pstep.go (st_move rfl rfl) ?_
        refine o_setF 73 rfl (rfl) ?_
        refine o_run rfl rfl rfl ?_
        refine Pstep.go (st_move rfl rfl) ?_
        refine o_run rfl rfl rfl ?_
        refine Estep.go (st_callD (rErr_910 Z (0, 1)) rfl [910] ⟨rfl, trivial⟩ rfl rfl rfl rfl rfl rfl rfl rfl rfl) ?_
        refine o_run rfl rfl rfl ?_
        first | refine Pstep.go (st_neq rfl rfl rfl) ?_ | refine Pstep.go (st_neqSL rfl rfl rfl) ?_ | refine Pstep.go (st_neqS rfl rfl rfl) ?_ | refine Pstep.go (st_neqB Try.underlying38 rfl rfl rfl) ?_ | refine Pstep.go (st_neqP Try.underlying38 rfl rfl rfl) ?_ | refine Pstep.go (st_neqN Try.underlying38 rfl rfl) ?_ | refine Pstep.go (st_neqF Try.underlying38 rfl rfl rfl) ?_ | refine Pstep.go (st_neqFN Try.underlying38 rfl rfl) ?_
        refine Pstep.go (st_pickF rfl rfl rfl rfl) ?_
        refine o_nil ?_
        refine a_false rfl (rfl) ?_
        refine a_skip ?_
        refine a_seq ?_
        refine a_only [] hF rfl rfl ?_
        refine a_region ?_
        refine Estep.go (st_callD newWriter_900 rfl [900, 901] ⟨rfl, rfl, trivial⟩ rfl rfl rfl rfl rfl rfl rfl rfl rfl) ?_
        refine Pstep.go (st_assign rfl rfl) ?_
        refine o_nil ?_
        refine a_seq ?_
        refine a_region ?_
        refine Pstep.go (st_move rfl rfl) ?_
        refine Pstep.go (st_move rfl rfl) ?_
        refine Estep.go (st_callD c2 rfl [900, 901] ⟨rfl, rfl, trivial⟩ rfl rfl rfl rfl rfl rfl rfl rfl rfl) ?_
        refine o_nil ?_
        refine a_seq ?_
        refine a_seq ?_
        refine a_drawn [[], [0], [0, 1], [], [3], [3, 4], [0, 1, 3, 4, 5], [0, 1, 3, 4, 5, 6], [0, 1, 2, 3, 4, 5, 6, 7]] mixed rfl ?_
        refine dws ?_
        first | refine d_pure [12] [] rfl rfl (fun _ => gp_none (st_move rfl rfl)) ?_ | refine d_pureA [12] rfl rfl (fun _ => gp_none (st_move rfl rfl)) ?_
        refine d_eff [82] [900, 901, 902] [(83, _)] rfl rfl (fun _ => ge_none (st_callD (wBytes_900 (uv l.length) (by omega)) rfl [900, 901, 902] ⟨rfl, rfl, rfl, trivial⟩ rfl rfl rfl rfl rfl rfl rfl rfl rfl)) (.inr ⟨83, _, rfl, rfl, rfl, rfl, rfl⟩) rfl rfl rfl rfl rfl ?_
        refine d_pure [83] [902] rfl rfl (fun _ => gp_none (st_convBSO (uv l.length) rfl rfl (by simp) rfl Try.underlying27 Try.underlying5 Try.underlying9 rfl)) ?_
        first | refine d_pure [0] [] rfl rfl (fun _ => gp_none (st_move rfl rfl)) ?_ | refine d_pureA [0] rfl rfl (fun _ => gp_none (st_move rfl rfl)) ?_
        first | refine d_pure [85] [] rfl rfl (fun _ => gp_none (st_lenMap rfl Try.underlying30 rfl)) ?_ | refine d_pureA [85] rfl rfl (fun _ => gp_none (st_lenMap rfl Try.underlying30 rfl)) ?_ | refine d_pure [85] [] rfl rfl (fun _ => gp_none (st_lenD rfl rfl Try.underlying30 rfl)) ?_ | refine d_pureA [85] rfl rfl (fun _ => gp_none (st_lenD rfl rfl Try.underlying30 rfl)) ?_ | refine d_pure [85] [] rfl rfl (fun _ => gp_none (st_lenO rfl Try.underlying30 rfl)) ?_ | refine d_pureA [85] rfl rfl (fun _ => gp_none (st_lenO rfl Try.underlying30 rfl)) ?_ | refine d_pure [85] [] rfl rfl (fun _ => gp_none (st_lenSL rfl Try.underlying30 rfl)) ?_ | refine d_pureA [85] rfl rfl (fun _ => gp_none (st_lenSL rfl Try.underlying30 rfl)) ?_ | refine d_pure [85] [] rfl rfl (fun _ => gp_none (st_lenS rfl Try.underlying30 rfl)) ?_ | refine d_pureA [85] rfl rfl (fun _ => gp_none (st_lenS rfl Try.underlying30 rfl)) ?_
        first | refine d_pure [86] [] rfl rfl (fun _ => gp_none (st_conv rfl Try.underlying3 Try.underlying29 (wrap64n l.length (by omega)) rfl)) ?_ | refine d_pureA [86] rfl rfl (fun _ => gp_none (st_conv rfl Try.underlying3 Try.underlying29 (wrap64n l.length (by omega)) rfl)) ?_
        refine d_eff [87] [903] [(88, _)] rfl rfl (fun _ => ge_none (st_callD (uint902 l.length (by omega)) rfl [903] ⟨rfl, trivial⟩ rfl rfl rfl rfl rfl rfl rfl rfl rfl)) (.inr ⟨88, _, rfl, rfl, rfl, rfl, rfl⟩) rfl rfl rfl rfl rfl ?_
        refine d_pure [88] [903] rfl rfl (fun _ => gp_none (st_convBSO (uv l.length) rfl rfl (by simp) rfl Try.underlying27 Try.underlying5 Try.underlying9 rfl)) ?_
        refine dwc 8 rfl rfl rfl ?_
        refine dw1 9 rfl rfl ?_
        first | refine Pstep.go (st_neq rfl rfl rfl) ?_ | refine Pstep.go (st_neqSL rfl rfl rfl) ?_ | refine Pstep.go (st_neqS rfl rfl rfl) ?_ | refine Pstep.go (st_neqB Try.underlying9 rfl rfl rfl) ?_ | refine Pstep.go (st_neqP Try.underlying9 rfl rfl rfl) ?_ | refine Pstep.go (st_neqN Try.underlying9 rfl rfl) ?_ | refine Pstep.go (st_neqF Try.underlying9 rfl rfl rfl) ?_ | refine Pstep.go (st_neqFN Try.underlying9 rfl rfl) ?_
        refine o_nil ⟨rfl, ?_⟩
        refine dwe ?_
        refine a_false rfl (decide_eq_false (by simp)) ?_
        refine a_skip ?_
        refine a_seq ?_
        refine a_seq ?_
        refine a_region ?_
        refine Pstep.go (st_move rfl rfl) ?_
        first | refine Pstep.go (st_lenMap rfl Try.underlying27 rfl) ?_ | refine Pstep.go (st_lenD rfl rfl Try.underlying27 rfl) ?_ | refine Pstep.go (st_lenO rfl Try.underlying27 rfl) ?_ | refine Pstep.go (st_lenSL rfl Try.underlying27 rfl) ?_ | refine Pstep.go (st_lenS rfl Try.underlying27 rfl) ?_
        first | refine Pstep.go (st_eql rfl rfl rfl) ?_ | refine Pstep.go (st_eqlSL rfl rfl rfl) ?_ | refine Pstep.go (st_eqlS rfl rfl rfl) ?_ | refine Pstep.go (st_eqlB Try.underlying3 rfl rfl rfl) ?_ | refine Pstep.go (st_eqlP Try.underlying3 rfl rfl rfl) ?_ | refine Pstep.go (st_eqlN Try.underlying3 rfl rfl) ?_ | refine Pstep.go (st_eqlF Try.underlying3 rfl rfl rfl) ?_ | refine Pstep.go (st_eqlFN Try.underlying3 rfl rfl) ?_
        refine o_nil ?_
        refine a_false rfl (decide_eq_false (by omega)) ?_
        refine a_skip ?_
        refine a_seq ?_
        refine a_only [] hF rfl rfl ?_
        obtain ⟨c, hc⟩ : ∃ c, c = n % Z.length := ⟨_, rfl⟩
        have hcl : c < Z.length := by rw [hc]; exact Nat.mod_lt _ hZ0
        refine a_region ?_
        refine Pstep.go (st_move rfl rfl) ?_
        refine Pstep.go (st_move rfl rfl) ?_
        refine Pstep.go (st_conv rfl Try.underlying47 Try.underlying3 (IntWalk.i64_in _ (by omega)) rfl) ?_
        refine Pstep.go (st_move rfl rfl) ?_
        first | refine Pstep.go (st_lenMap rfl Try.underlying27 rfl) ?_ | refine Pstep.go (st_lenD rfl rfl Try.underlying27 rfl) ?_ | refine Pstep.go (st_lenO rfl Try.underlying27 rfl) ?_ | refine Pstep.go (st_lenSL rfl Try.underlying27 rfl) ?_ | refine Pstep.go (st_lenS rfl Try.underlying27 rfl) ?_
        refine Pstep.go (st_rem rfl rfl (by omega) (show ((n : Nat) : Int).tmod ((Z.length : Nat) : Int) = ((n % Z.length : Nat) : Int) from rfl) rfl) ?_
        refine o_weakD 99 (.raw (.int .i64 (c : Int))) rfl (fun _ _ _ h => by rw [hc]; exact h) ?_
        refine Pstep.go (st_sliceHiM (Z) (c) rfl rfl rfl (rfl) (by omega) Try.underlying27 sz5 (fun _ => rfl) rfl) ?_
        have hbl : (Z.take c).length ≤ 60000 := by rw [List.length_take]; omega
        refine Estep.go (st_callD (newReader_p (Z.take c) (by omega)) rfl [910] ⟨rfl, trivial⟩ rfl rfl rfl rfl rfl rfl rfl rfl rfl) ?_
        refine Pstep.go (st_assign rfl rfl) ?_
        refine o_nil ?_
        refine a_seq ?_
        have c5 := readSlice_910 1048576 (by omega) (by omega) (Z.take c) (0, 0) (Nat.zero_le _) (by omega)
        have hcut := rdSlice_cut hl hx (c := c) (by rw [← hZ]; exact hcl)
        obtain ⟨sa, hsa⟩ := hcut
        rw [← hZ] at hsa
        rw [hsa] at c5
        refine a_region ?_
        refine Pstep.go (st_move rfl rfl) ?_
        refine Estep.go (st_callD c5 rfl [910] ⟨rfl, trivial⟩ rfl rfl rfl rfl rfl rfl rfl rfl rfl) ?_
        first | refine Pstep.go (st_lenMap rfl Try.underlying30 rfl) ?_ | refine Pstep.go (st_lenD rfl rfl Try.underlying30 rfl) ?_ | refine Pstep.go (st_lenO rfl Try.underlying30 rfl) ?_ | refine Pstep.go (st_lenSL rfl Try.underlying30 rfl) ?_ | refine Pstep.go (st_lenS rfl Try.underlying30 rfl) ?_
        first | refine Pstep.go (st_eql rfl rfl rfl) ?_ | refine Pstep.go (st_eqlSL rfl rfl rfl) ?_ | refine Pstep.go (st_eqlS rfl rfl rfl) ?_ | refine Pstep.go (st_eqlB Try.underlying3 rfl rfl rfl) ?_ | refine Pstep.go (st_eqlP Try.underlying3 rfl rfl rfl) ?_ | refine Pstep.go (st_eqlN Try.underlying3 rfl rfl) ?_ | refine Pstep.go (st_eqlF Try.underlying3 rfl rfl rfl) ?_ | refine Pstep.go (st_eqlFN Try.underlying3 rfl rfl) ?_
        refine Pstep.go (st_move rfl rfl) ?_
        refine o_setT 106 rfl (rfl) ?_
        refine o_run rfl rfl rfl ?_
        refine Pstep.go (st_move rfl rfl) ?_
        refine o_run rfl rfl rfl ?_
        refine Estep.go (st_callD (rErr_910 (Z.take c) (sa, 19)) rfl [910] ⟨rfl, trivial⟩ rfl rfl rfl rfl rfl rfl rfl rfl rfl) ?_
        refine o_run rfl rfl rfl ?_
        first | refine Pstep.go (st_eql rfl rfl rfl) ?_ | refine Pstep.go (st_eqlSL rfl rfl rfl) ?_ | refine Pstep.go (st_eqlS rfl rfl rfl) ?_ | refine Pstep.go (st_eqlB Try.underlying38 rfl rfl rfl) ?_ | refine Pstep.go (st_eqlP Try.underlying38 rfl rfl rfl) ?_ | refine Pstep.go (st_eqlN Try.underlying38 rfl rfl) ?_ | refine Pstep.go (st_eqlF Try.underlying38 rfl rfl rfl) ?_ | refine Pstep.go (st_eqlFN Try.underlying38 rfl rfl) ?_
        refine Pstep.go (st_pickT rfl rfl rfl rfl) ?_
        refine Pstep.go (st_assign rfl rfl) ?_
        refine o_nil ?_
        refine a_ret ?_
        exact ⟨_, [], [], res_of rfl, rfl, rfl, rfl, rfl⟩
    · refine Pstep.go (st_move rfl rfl) ?_
      rw [hZ, rdSlice_ok (by omega) (fun x hh => by have := hx x hh; omega) hbig, ← hZ] at c3
      refine Pstep.go (st_move rfl rfl) ?_
      refine Estep.go (st_callD c3 rfl [910] ⟨rfl, trivial⟩ rfl rfl rfl rfl rfl rfl rfl rfl rfl) ?_
      refine Pstep.go (st_assign rfl rfl) ?_
      refine o_nil ?_
      refine a_seq ?_
      refine a_seq ?_
      refine a_region ?_
      refine Pstep.go (st_move rfl rfl) ?_
      first | refine Pstep.go (st_lss rfl rfl rfl) ?_ | refine Pstep.go (st_lssS rfl rfl rfl) ?_
      refine Pstep.go (st_move rfl rfl) ?_
      refine o_setF 37 rfl (decide_eq_false (by omega)) ?_
      refine o_run rfl rfl rfl ?_
      refine Pstep.go (st_move rfl rfl) ?_
      refine o_run rfl rfl rfl ?_
      first | refine Pstep.go (st_lenMap rfl Try.underlying30 rfl) ?_ | refine Pstep.go (st_lenD rfl rfl Try.underlying30 rfl) ?_ | refine Pstep.go (st_lenO rfl Try.underlying30 rfl) ?_ | refine Pstep.go (st_lenSL rfl Try.underlying30 rfl) ?_ | refine Pstep.go (st_lenS rfl Try.underlying30 rfl) ?_
      refine o_run rfl rfl rfl ?_
      refine Pstep.go (st_move rfl rfl) ?_
      refine o_run rfl rfl rfl ?_
      first | refine Pstep.go (st_gtr rfl rfl rfl) ?_ | refine Pstep.go (st_gtrS rfl rfl rfl) ?_
      refine Pstep.go (st_pickF rfl rfl rfl rfl) ?_
      refine o_nil ?_
      refine a_false rfl (decide_eq_false (by omega)) ?_
      refine a_seq ?_
      refine a_region ?_
      refine Pstep.go (st_move rfl rfl) ?_
      refine Estep.go (st_callD (rEnd_910 Z (Z.length, 0) (Nat.le_refl _) (by omega)) rfl [910] ⟨rfl, trivial⟩ rfl rfl rfl rfl rfl rfl rfl rfl rfl) ?_
      first | refine Pstep.go (st_neq rfl rfl rfl) ?_ | refine Pstep.go (st_neqSL rfl rfl rfl) ?_ | refine Pstep.go (st_neqS rfl rfl rfl) ?_ | refine Pstep.go (st_neqB Try.underlying38 rfl rfl rfl) ?_ | refine Pstep.go (st_neqP Try.underlying38 rfl rfl rfl) ?_ | refine Pstep.go (st_neqN Try.underlying38 rfl rfl) ?_ | refine Pstep.go (st_neqF Try.underlying38 rfl rfl rfl) ?_ | refine Pstep.go (st_neqFN Try.underlying38 rfl rfl) ?_
      refine Pstep.go (st_move rfl rfl) ?_
      refine o_setF 59 rfl (by simp) ?_
      refine o_run rfl rfl rfl ?_
      refine Pstep.go (st_move rfl rfl) ?_
      refine o_run rfl rfl rfl ?_
      refine Pstep.go (st_build zl32 pl32 rfl rfl rfl) ?_
      refine o_run rfl rfl rfl ?_
      refine Pstep.go (st_move rfl rfl) ?_
      refine o_run rfl rfl rfl ?_
      refine Pstep.go (st_build zl32 pl32 rfl rfl rfl) ?_
      refine o_run rfl rfl rfl ?_
      refine Pstep.go (st_callP (same_p ⟨0, 0, 0, false, [], l⟩ ⟨0, 0, 0, false, [], l⟩ hl0) rfl rfl) ?_
      refine o_run rfl rfl rfl ?_
      first | refine Pstep.go (st_notP rfl rfl) ?_ | refine Pstep.go (st_not rfl rfl) ?_
      refine Pstep.go (st_pickF rfl rfl rfl rfl) ?_
      refine o_nil ?_
      refine a_false rfl (by simp) ?_
      refine a_skip ?_
      refine a_seq ?_
      refine a_only [] hF rfl rfl ?_
      refine a_region ?_
      refine Pstep.go (st_move rfl rfl) ?_
      refine Estep.go (st_callD (newReader_p Z (by omega)) rfl [910] ⟨rfl, trivial⟩ rfl rfl rfl rfl rfl rfl rfl rfl rfl) ?_
      refine Pstep.go (st_assign rfl rfl) ?_
      refine o_nil ?_
      refine a_seq ?_
      refine a_seq ?_
      have c4 := readSlice_nil 1048576 (by omega) (by omega) Z (0, 0) (Nat.zero_le _) (by omega)
      have hn1 : stN 1048576 false Z (0, 0) = (0, (0, 1)) := by
        have hd : decN 1048576 false (Z.drop 0) = (0, 0, 1) := by (rw [List.drop_zero, hZ]; unfold decN; rw [rd_uv _ _ (by omega)]; dsimp only; rw [if_pos rfl, if_neg (by omega)]; rfl)
        have h4 : stN 1048576 false Z (0, 0) = _ := stepR_clean (decN_clean 1048576 false) _ 0
        rw [h4, hd]; rfl
      rw [hn1] at c4
      refine a_region ?_
      refine Pstep.go (st_move rfl rfl) ?_
      refine Estep.go (st_callD c4 rfl [910] ⟨rfl, trivial⟩ rfl rfl rfl rfl rfl rfl rfl rfl rfl) ?_
      first | refine Pstep.go (st_lenMap rfl Try.underlying30 rfl) ?_ | refine Pstep.go (st_lenD rfl rfl Try.underlying30 rfl) ?_ | refine Pstep.go (st_lenO rfl Try.underlying30 rfl) ?_ | refine Pstep.go (st_lenSL rfl Try.underlying30 rfl) ?_ | refine Pstep.go (st_lenS rfl Try.underlying30 rfl) ?_
      first | refine Pstep.go (st_neq rfl rfl rfl) ?_ | refine Pstep.go (st_neqSL rfl rfl rfl) ?_ | refine Pstep.go (st_neqS rfl rfl rfl) ?_ | refine Pstep.go (st_neqB Try.underlying3 rfl rfl rfl) ?_ | refine Pstep.go (st_neqP Try.underlying3 rfl rfl rfl) ?_ | refine Pstep.go (st_neqN Try.underlying3 rfl rfl) ?_ | refine Pstep.go (st_neqF Try.underlying3 rfl rfl rfl) ?_ | refine Pstep.go (st_neqFN Try.underlying3 rfl rfl) ?_
      refine Pstep.go (st_move rfl rfl) ?_
      refine o_setF 73 rfl (rfl) ?_
      refine o_run rfl rfl rfl ?_
      refine Pstep.go (st_move rfl rfl) ?_
      refine o_run rfl rfl rfl ?_
      refine Estep.go (st_callD (rErr_910 Z (0, 1)) rfl [910] ⟨rfl, trivial⟩ rfl rfl rfl rfl rfl rfl rfl rfl rfl) ?_
      refine o_run rfl rfl rfl ?_
      first | refine Pstep.go (st_neq rfl rfl rfl) ?_ | refine Pstep.go (st_neqSL rfl rfl rfl) ?_ | refine Pstep.go (st_neqS rfl rfl rfl) ?_ | refine Pstep.go (st_neqB Try.underlying38 rfl rfl rfl) ?_ | refine Pstep.go (st_neqP Try.underlying38 rfl rfl rfl) ?_ | refine Pstep.go (st_neqN Try.underlying38 rfl rfl) ?_ | refine Pstep.go (st_neqF Try.underlying38 rfl rfl rfl) ?_ | refine Pstep.go (st_neqFN Try.underlying38 rfl rfl) ?_
      refine Pstep.go (st_pickF rfl rfl rfl rfl) ?_
      refine o_nil ?_
      refine a_false rfl (rfl) ?_
      refine a_skip ?_
      refine a_seq ?_
      refine a_only [] hF rfl rfl ?_
      refine a_region ?_
      refine Estep.go (st_callD newWriter_900 rfl [900, 901] ⟨rfl, rfl, trivial⟩ rfl rfl rfl rfl rfl rfl rfl rfl rfl) ?_
      refine Pstep.go (st_assign rfl rfl) ?_
      refine o_nil ?_
      refine a_seq ?_
      refine a_region ?_
      refine Pstep.go (st_move rfl rfl) ?_
      refine Pstep.go (st_move rfl rfl) ?_
      refine Estep.go (st_callD c2 rfl [900, 901] ⟨rfl, rfl, trivial⟩ rfl rfl rfl rfl rfl rfl rfl rfl rfl) ?_
      refine o_nil ?_
      refine a_seq ?_
      refine a_seq ?_
      refine a_drawn [[], [0], [0, 1], [], [3], [3, 4], [0, 1, 3, 4, 5], [0, 1, 3, 4, 5, 6], [0, 1, 2, 3, 4, 5, 6, 7]] mixed rfl ?_
      refine dws ?_
      first | refine d_pure [12] [] rfl rfl (fun _ => gp_none (st_move rfl rfl)) ?_ | refine d_pureA [12] rfl rfl (fun _ => gp_none (st_move rfl rfl)) ?_
      refine d_eff [82] [900, 901, 902] [(83, _)] rfl rfl (fun _ => ge_none (st_callD (wBytes_900 (uv l.length) (by omega)) rfl [900, 901, 902] ⟨rfl, rfl, rfl, trivial⟩ rfl rfl rfl rfl rfl rfl rfl rfl rfl)) (.inr ⟨83, _, rfl, rfl, rfl, rfl, rfl⟩) rfl rfl rfl rfl rfl ?_
      refine d_pure [83] [902] rfl rfl (fun _ => gp_none (st_convBSO (uv l.length) rfl rfl (by simp) rfl Try.underlying27 Try.underlying5 Try.underlying9 rfl)) ?_
      first | refine d_pure [0] [] rfl rfl (fun _ => gp_none (st_move rfl rfl)) ?_ | refine d_pureA [0] rfl rfl (fun _ => gp_none (st_move rfl rfl)) ?_
      first | refine d_pure [85] [] rfl rfl (fun _ => gp_none (st_lenMap rfl Try.underlying30 rfl)) ?_ | refine d_pureA [85] rfl rfl (fun _ => gp_none (st_lenMap rfl Try.underlying30 rfl)) ?_ | refine d_pure [85] [] rfl rfl (fun _ => gp_none (st_lenD rfl rfl Try.underlying30 rfl)) ?_ | refine d_pureA [85] rfl rfl (fun _ => gp_none (st_lenD rfl rfl Try.underlying30 rfl)) ?_ | refine d_pure [85] [] rfl rfl (fun _ => gp_none (st_lenO rfl Try.underlying30 rfl)) ?_ | refine d_pureA [85] rfl rfl (fun _ => gp_none (st_lenO rfl Try.underlying30 rfl)) ?_ | refine d_pure [85] [] rfl rfl (fun _ => gp_none (st_lenSL rfl Try.underlying30 rfl)) ?_ | refine d_pureA [85] rfl rfl (fun _ => gp_none (st_lenSL rfl Try.underlying30 rfl)) ?_ | refine d_pure [85] [] rfl rfl (fun _ => gp_none (st_lenS rfl Try.underlying30 rfl)) ?_ | refine d_pureA [85] rfl rfl (fun _ => gp_none (st_lenS rfl Try.underlying30 rfl)) ?_
      first | refine d_pure [86] [] rfl rfl (fun _ => gp_none (st_conv rfl Try.underlying3 Try.underlying29 (wrap64n l.length (by omega)) rfl)) ?_ | refine d_pureA [86] rfl rfl (fun _ => gp_none (st_conv rfl Try.underlying3 Try.underlying29 (wrap64n l.length (by omega)) rfl)) ?_
      refine d_eff [87] [903] [(88, _)] rfl rfl (fun _ => ge_none (st_callD (uint902 l.length (by omega)) rfl [903] ⟨rfl, trivial⟩ rfl rfl rfl rfl rfl rfl rfl rfl rfl)) (.inr ⟨88, _, rfl, rfl, rfl, rfl, rfl⟩) rfl rfl rfl rfl rfl ?_
      refine d_pure [88] [903] rfl rfl (fun _ => gp_none (st_convBSO (uv l.length) rfl rfl (by simp) rfl Try.underlying27 Try.underlying5 Try.underlying9 rfl)) ?_
      refine dwc 8 rfl rfl rfl ?_
      refine dw1 9 rfl rfl ?_
      first | refine Pstep.go (st_neq rfl rfl rfl) ?_ | refine Pstep.go (st_neqSL rfl rfl rfl) ?_ | refine Pstep.go (st_neqS rfl rfl rfl) ?_ | refine Pstep.go (st_neqB Try.underlying9 rfl rfl rfl) ?_ | refine Pstep.go (st_neqP Try.underlying9 rfl rfl rfl) ?_ | refine Pstep.go (st_neqN Try.underlying9 rfl rfl) ?_ | refine Pstep.go (st_neqF Try.underlying9 rfl rfl rfl) ?_ | refine Pstep.go (st_neqFN Try.underlying9 rfl rfl) ?_
      refine o_nil ⟨rfl, ?_⟩
      refine dwe ?_
      refine a_false rfl (decide_eq_false (by simp)) ?_
      refine a_skip ?_
      refine a_seq ?_
      refine a_seq ?_
      refine a_region ?_
      refine Pstep.go (st_move rfl rfl) ?_
      first | refine Pstep.go (st_lenMap rfl Try.underlying27 rfl) ?_ | refine Pstep.go (st_lenD rfl rfl Try.underlying27 rfl) ?_ | refine Pstep.go (st_lenO rfl Try.underlying27 rfl) ?_ | refine Pstep.go (st_lenSL rfl Try.underlying27 rfl) ?_ | refine Pstep.go (st_lenS rfl Try.underlying27 rfl) ?_
      first | refine Pstep.go (st_eql rfl rfl rfl) ?_ | refine Pstep.go (st_eqlSL rfl rfl rfl) ?_ | refine Pstep.go (st_eqlS rfl rfl rfl) ?_ | refine Pstep.go (st_eqlB Try.underlying3 rfl rfl rfl) ?_ | refine Pstep.go (st_eqlP Try.underlying3 rfl rfl rfl) ?_ | refine Pstep.go (st_eqlN Try.underlying3 rfl rfl) ?_ | refine Pstep.go (st_eqlF Try.underlying3 rfl rfl rfl) ?_ | refine Pstep.go (st_eqlFN Try.underlying3 rfl rfl) ?_
      refine o_nil ?_
      refine a_false rfl (decide_eq_false (by omega)) ?_
      refine a_skip ?_
      refine a_seq ?_
      refine a_only [] hF rfl rfl ?_
      obtain ⟨c, hc⟩ : ∃ c, c = n % Z.length := ⟨_, rfl⟩
      have hcl : c < Z.length := by rw [hc]; exact Nat.mod_lt _ hZ0
      refine a_region ?_
      refine Pstep.go (st_move rfl rfl) ?_
      refine Pstep.go (st_move rfl rfl) ?_
      refine Pstep.go (st_conv rfl Try.underlying47 Try.underlying3 (IntWalk.i64_in _ (by omega)) rfl) ?_
      refine Pstep.go (st_move rfl rfl) ?_
      first | refine Pstep.go (st_lenMap rfl Try.underlying27 rfl) ?_ | refine Pstep.go (st_lenD rfl rfl Try.underlying27 rfl) ?_ | refine Pstep.go (st_lenO rfl Try.underlying27 rfl) ?_ | refine Pstep.go (st_lenSL rfl Try.underlying27 rfl) ?_ | refine Pstep.go (st_lenS rfl Try.underlying27 rfl) ?_
      refine Pstep.go (st_rem rfl rfl (by omega) (show ((n : Nat) : Int).tmod ((Z.length : Nat) : Int) = ((n % Z.length : Nat) : Int) from rfl) rfl) ?_
      refine o_weakD 99 (.raw (.int .i64 (c : Int))) rfl (fun _ _ _ h => by rw [hc]; exact h) ?_
      refine Pstep.go (st_sliceHiM (Z) (c) rfl rfl rfl (rfl) (by omega) Try.underlying27 sz5 (fun _ => rfl) rfl) ?_
      have hbl : (Z.take c).length ≤ 60000 := by rw [List.length_take]; omega
      refine Estep.go (st_callD (newReader_p (Z.take c) (by omega)) rfl [910] ⟨rfl, trivial⟩ rfl rfl rfl rfl rfl rfl rfl rfl rfl) ?_
      refine Pstep.go (st_assign rfl rfl) ?_
      refine o_nil ?_
      refine a_seq ?_
      have c5 := readSlice_910 1048576 (by omega) (by omega) (Z.take c) (0, 0) (Nat.zero_le _) (by omega)
      have hcut := rdSlice_cut hl hx (c := c) (by rw [← hZ]; exact hcl)
      obtain ⟨sa, hsa⟩ := hcut
      rw [← hZ] at hsa
      rw [hsa] at c5
      refine a_region ?_
      refine Pstep.go (st_move rfl rfl) ?_
      refine Estep.go (st_callD c5 rfl [910] ⟨rfl, trivial⟩ rfl rfl rfl rfl rfl rfl rfl rfl rfl) ?_
      first | refine Pstep.go (st_lenMap rfl Try.underlying30 rfl) ?_ | refine Pstep.go (st_lenD rfl rfl Try.underlying30 rfl) ?_ | refine Pstep.go (st_lenO rfl Try.underlying30 rfl) ?_ | refine Pstep.go (st_lenSL rfl Try.underlying30 rfl) ?_ | refine Pstep.go (st_lenS rfl Try.underlying30 rfl) ?_
      first | refine Pstep.go (st_eql rfl rfl rfl) ?_ | refine Pstep.go (st_eqlSL rfl rfl rfl) ?_ | refine Pstep.go (st_eqlS rfl rfl rfl) ?_ | refine Pstep.go (st_eqlB Try.underlying3 rfl rfl rfl) ?_ | refine Pstep.go (st_eqlP Try.underlying3 rfl rfl rfl) ?_ | refine Pstep.go (st_eqlN Try.underlying3 rfl rfl) ?_ | refine Pstep.go (st_eqlF Try.underlying3 rfl rfl rfl) ?_ | refine Pstep.go (st_eqlFN Try.underlying3 rfl rfl) ?_
      refine Pstep.go (st_move rfl rfl) ?_
      refine o_setT 106 rfl (rfl) ?_
      refine o_run rfl rfl rfl ?_
      refine Pstep.go (st_move rfl rfl) ?_
      refine o_run rfl rfl rfl ?_
      refine Estep.go (st_callD (rErr_910 (Z.take c) (sa, 19)) rfl [910] ⟨rfl, trivial⟩ rfl rfl rfl rfl rfl rfl rfl rfl rfl) ?_
      refine o_run rfl rfl rfl ?_
      first | refine Pstep.go (st_eql rfl rfl rfl) ?_ | refine Pstep.go (st_eqlSL rfl rfl rfl) ?_ | refine Pstep.go (st_eqlS rfl rfl rfl) ?_ | refine Pstep.go (st_eqlB Try.underlying38 rfl rfl rfl) ?_ | refine Pstep.go (st_eqlP Try.underlying38 rfl rfl rfl) ?_ | refine Pstep.go (st_eqlN Try.underlying38 rfl rfl) ?_ | refine Pstep.go (st_eqlF Try.underlying38 rfl rfl rfl) ?_ | refine Pstep.go (st_eqlFN Try.underlying38 rfl rfl) ?_
      refine Pstep.go (st_pickT rfl rfl rfl rfl) ?_
      refine Pstep.go (st_assign rfl rfl) ?_
      refine o_nil ?_
      refine a_ret ?_
      exact ⟨_, [], [], res_of rfl, rfl, rfl, rfl, rfl⟩
theorem slices_i (l : List (List UInt8)) (mx n : Int) (hn : IntKind.u16.min ≤ n ∧ n ≤ IntKind.u16.max) (hl0 : l.length ≤ 140737488351232) (hx0 : ∀ x ∈ l, x.length ≤ 140737488351232) (h1 : -9223372036854775808 ≤ mx) (h2 : mx ≤ 9223372036854775807) : PCalls Try.prog 5 [.d (strsD l), .d (.raw (.int .i64 mx)), .d (.raw (.int .u16 n))] (.raw (.bool true)) := by
  have g1 : IntKind.u16.min = 0 := rfl
  have g2 : IntKind.u16.max = 65535 := rfl
  obtain ⟨n, rfl⟩ := Int.eq_ofNat_of_zero_le (show 0 ≤ n by omega)
  exact slices_p l mx n (by omega) hl0 hx0 h1 h2
end Go.Proofs.Ytjbghmlofjkcfaa
