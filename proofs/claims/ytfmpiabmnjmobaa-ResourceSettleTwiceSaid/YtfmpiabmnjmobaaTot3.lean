/- Layer 28: Settle. -/
import Derived.Test.YtfmpiabmnjmobaaTot2
import Derived.Test.YtfmpiabmnjmobaaClr
namespace Go.Proofs.Ytfmpiabmnjmobaa
open Go.RowKit

def inS (S : List Int) (x : Int) : Bool := decide (x ∈ S)
abbrev fnS (S : List Int) : AV := .fn 82 [.d (.ptr (.sl none (S.map intD)))]
set_option maxRecDepth 100000 in
theorem settle2_p (S : List Int) (x : Int) (hS : S.length ≤ 100000) : PCalls Try.prog 82 [.d (intD x), .d (.ptr (.sl none (S.map intD)))] (boolD (inS S x)) := by
  refine a_enter Try.func82 rfl rfl Try.ntmps82 rfl rfl rfl fun F hF => ?_
  refine a_seq ?_
  refine a_region ?_
  refine Pstep.go (st_assign rfl rfl) ?_
  refine o_nil ?_
  refine a_seq ?_
  refine a_region ?_
  refine Pstep.go (st_loadD1 rfl rfl on24 rfl) ?_
  refine Pstep.go (st_move rfl rfl) ?_
  refine Pstep.go (st_callP (contains_p S x (by omega)) rfl rfl) ?_
  refine Pstep.go (st_assign rfl rfl) ?_
  refine o_nil ?_
  refine a_ret ?_
  exact ⟨_, [], [], res_of rfl, rfl, rfl, rfl, rfl⟩
set_option maxRecDepth 100000 in
theorem indexS_p (S l : List Int) (hS : S.length ≤ 100000) (hl : l.length ≤ 100000000) : PCalls Try.prog 95 [.d (.sl none (l.map intD)), fnS S] (intD (ixF (inS S) l)) := by
  refine a_enter Try.func95 rfl rfl Try.ntmps95 rfl rfl rfl fun F hF => ?_
  refine a_seq ?_
  refine a_region ?_
  refine Pstep.go (st_assign rfl rfl) ?_
  refine o_nil ?_
  refine a_seq ?_
  refine a_seq ?_
  refine a_region ?_
  refine Pstep.go (st_move rfl rfl) ?_
  refine Pstep.go (st_lenMap rfl Try.underlying24 rfl) ?_
  refine Pstep.go (st_move rfl rfl) ?_
  refine o_nil ?_
  refine a_block ?_
  refine a_loop (α := Nat) (fun k => ⟨19, [(0, .d (.sl none (l.map intD))), (1, fnS S), (7, (.d (intD (l.length : Int)))), (8, (.d (intD (k : Int))))], []⟩) (fun k => k ≤ l.length ∧ ∀ x ∈ l.take k, inS S x = false) (fun k => l.length - k) (0) (⟨Nat.zero_le _, by simp⟩) (le_of_has ⟨rfl, rfl, rfl, rfl, trivial⟩) ?_
  rintro k ⟨hk0, hk⟩
  refine a_seq ?_
  refine a_region ?_
  refine Pstep.go (st_lss rfl rfl rfl) ?_
  refine o_nil ?_
  refine a_seq ?_
  refine a_if rfl (fun h9 => ?_) (fun h9 => ?_)
  · have hk1 : k < l.length := lt_cast h9
    refine a_skip ?_
    refine a_seq ?_
    refine a_block ?_
    refine a_seq ?_
    refine a_region ?_
    refine Pstep.go (st_move rfl rfl) ?_
    refine Pstep.go (st_assign rfl rfl) ?_
    refine o_nil ?_
    refine a_seq ?_
    refine a_region ?_
    refine Pstep.go (st_move rfl rfl) ?_
    refine Pstep.go (st_move rfl rfl) ?_
    refine Pstep.go (st_move rfl rfl) ?_
    refine Pstep.go (st_indexD (k) rfl rfl (rfl) (getm hk1) Try.underlying24 rfl sz3 rfl) ?_
    refine Pstep.go (st_loadD1 rfl rfl on3 rfl) ?_
    refine Pstep.go (st_callVP (settle2_p S l[k] hS) rfl rfl) ?_
    refine o_nil ?_
    refine a_if rfl (fun h16 => ?_) (fun h16 => ?_)
    · refine a_seq ?_
      refine a_region ?_
      refine Pstep.go (st_move rfl rfl) ?_
      refine Pstep.go (st_assign rfl rfl) ?_
      refine o_nil ?_
      refine a_ret ?_
      exact ⟨_, [], [], res_of rfl, rfl, rfl, retI (by unfold ixF; rw [fidx_at hk1 hk (by unfold inS; simpa using h16)]), rfl⟩
    · refine a_skip ?_
      refine a_region ?_
      refine Pstep.go (st_add rfl rfl (wrapS (k + 1) (by omega)) rfl) ?_
      refine Pstep.go (st_move rfl rfl) ?_
      refine o_nil ?_
      exact ⟨k + 1, ⟨by show k + 1 ≤ _; omega, by rw [List.take_succ_eq_append_getElem hk1]; intro x hx; rcases List.mem_append.1 hx with hx | hx; exact hk x hx; rw [List.mem_singleton.1 hx]; unfold inS; simpa using h16⟩, by show l.length - (k + 1) < l.length - k; omega, ⟨rfl, rfl, fun _ _ => Has.get (l := [(0, _), (1, _), (7, _), (8, _)]) ⟨rfl, rfl, rfl, rfl, trivial⟩⟩⟩
  · refine a_exit ?_
    refine a_seq ?_
    refine a_region ?_
    refine Pstep.go (st_assign rfl rfl) ?_
    refine o_nil ?_
    refine a_ret ?_
    exact ⟨_, [], [], res_of rfl, rfl, rfl, retI (by unfold ixF; rw [fidx_no (fun x hx => hk x (by rw [List.take_of_length_le (by have h := h9; omega)]; exact hx))]), rfl⟩
def kept (S l : List Int) : List Int := l.filter fun x => !inS S x
theorem kept_all {S l : List Int} (h : ∀ x ∈ l, inS S x = false) : kept S l = l := List.filter_eq_self.2 fun x hx => by rw [h x hx]; rfl
theorem kept_in {S l : List Int} {k : Nat} (hk : k < l.length) (h : inS S l[k] = false) : kept S (l.take (k + 1)) = kept S (l.take k) ++ [l[k]] := by
  unfold kept; rw [flt_snoc hk, if_pos (by rw [h]; rfl)]
theorem kept_out {S l : List Int} {k : Nat} (hk : k < l.length) (h : inS S l[k] = true) : kept S (l.take (k + 1)) = kept S (l.take k) := by
  unfold kept; rw [flt_snoc hk, if_neg (by rw [h]; simp), List.append_nil]
theorem kept_le (S l : List Int) : (kept S l).length ≤ l.length := List.length_filter_le _ _
set_option maxRecDepth 100000 in
theorem delI_c (S l : List Int) (hS : S.length ≤ 100000) (hl : l.length ≤ 100000) : ACalls Try.prog 81 [.own 930 0 l.length, fnS S] [(930, [.rowD 3 1 (l.map intD)])] fun r H' => r = .own 930 0 (kept S l).length ∧ H' = [(930, [.rowD 3 1 ((kept S l ++ List.replicate (l.length - (kept S l).length) 0).map intD)])] := by
  have hix := indexS_p S l hS (by omega)
  cases hfi : l.findIdx? (inS S) with
  | none =>
    have hall : ∀ x ∈ l, inS S x = false := fun x hx => by have := List.findIdx?_eq_none_iff.1 hfi x hx; simpa using this
    have hix2 : ixF (inS S) l = -1 := by unfold ixF; rw [hfi]
    rw [hix2] at hix
    have hkp := kept_all hall
    refine a_enter Try.func81 rfl rfl Try.ntmps81 rfl rfl rfl fun F hF => ?_
    refine a_seq ?_
    refine a_region ?_
    refine Pstep.go (st_assign rfl rfl) ?_
    refine o_nil ?_
    refine a_seq ?_
    refine a_region ?_
    refine Pstep.go (st_move rfl rfl) ?_
    refine Pstep.go (st_move rfl rfl) ?_
    refine Pstep.go (st_callPB [930] hix (by exact ⟨.inr ⟨_, _, rfl, .own rfl rfl (by simp) (List.take_of_length_le (by simp)), rfl⟩, .inl rfl, trivial⟩) rfl rfl) ?_
    refine Pstep.go (st_assign rfl rfl) ?_
    refine o_nil ?_
    refine a_seq ?_
    refine a_seq ?_
    refine a_region ?_
    refine Pstep.go (st_move rfl rfl) ?_
    refine Pstep.go (st_eql rfl rfl rfl) ?_
    refine o_nil ?_
    refine a_true rfl (rfl) ?_
    refine a_seq ?_
    refine a_region ?_
    refine Pstep.go (st_move rfl rfl) ?_
    refine Pstep.go (st_assign rfl rfl) ?_
    refine o_nil ?_
    refine a_ret ?_
    exact ⟨_, [930], _, res_of rfl, rfl, rfl, by rw [hkp], by rw [hkp]; simp⟩
  | some k0 =>
    obtain ⟨hk0, hk0p, hk0n⟩ := List.findIdx?_eq_some_iff_getElem.1 hfi
    have hix2 : ixF (inS S) l = (k0 : Int) := by unfold ixF; rw [hfi]
    rw [hix2] at hix
    have hpre : ∀ x ∈ l.take k0, inS S x = false := fun x hx => by
      obtain ⟨j, hj, rfl⟩ := List.mem_take_iff_getElem.1 hx
      have := hk0n j (by omega)
      simpa using this
    have hst : kept S (l.take (k0 + 1)) = l.take k0 := by rw [kept_out hk0 hk0p, kept_all hpre]
    refine a_enter Try.func81 rfl rfl Try.ntmps81 rfl rfl rfl fun F hF => ?_
    refine a_seq ?_
    refine a_region ?_
    refine Pstep.go (st_assign rfl rfl) ?_
    refine o_nil ?_
    refine a_seq ?_
    refine a_region ?_
    refine Pstep.go (st_move rfl rfl) ?_
    refine Pstep.go (st_move rfl rfl) ?_
    refine Pstep.go (st_callPB [930] hix (by exact ⟨.inr ⟨_, _, rfl, .own rfl rfl (by simp) (List.take_of_length_le (by simp)), rfl⟩, .inl rfl, trivial⟩) rfl rfl) ?_
    refine Pstep.go (st_assign rfl rfl) ?_
    refine o_nil ?_
    refine a_seq ?_
    refine a_seq ?_
    refine a_region ?_
    refine Pstep.go (st_move rfl rfl) ?_
    refine Pstep.go (st_eql rfl rfl rfl) ?_
    refine o_nil ?_
    refine a_false rfl ((decide_eq_false (by omega))) ?_
    refine a_skip ?_
    refine a_seq ?_
    refine a_seq ?_
    refine a_region ?_
    refine Pstep.go (st_move rfl rfl) ?_
    refine Pstep.go (st_add rfl rfl (wrapS (k0 + 1) (by omega)) rfl) ?_
    refine Pstep.go (st_assign rfl rfl) ?_
    refine o_nil ?_
    refine a_block ?_
    refine a_loopP (α := Nat × Nat × List Int) (fun q => ⟨42, [(0, (.own 930 0 l.length)), (1, (fnS S)), (5, (.d (intD (q.1 : Int)))), (6, (.d (intD (q.2.1 : Int))))], [(930, [.rowD 3 1 (q.2.2.map intD)])]⟩) (fun q => q.2.1 ≤ l.length ∧ q.1 < q.2.1 ∧ q.2.2.length = l.length ∧ q.2.2.take q.1 = kept S (l.take q.2.1) ∧ q.2.2.drop q.2.1 = l.drop q.2.1) (fun q => l.length - q.2.1) ((k0, k0 + 1, l)) (⟨by show k0 + 1 ≤ _; omega, Nat.lt_succ_self _, rfl, hst.symm, rfl⟩) (lep_of hF [930] rfl rfl ⟨rfl, rfl, rfl, rfl, trivial⟩) ?_
    rintro ⟨i, j, c⟩ ⟨hj0, hij, hcl, hct, hcd⟩
    dsimp only at hj0 hij hcl hct hcd ⊢
    refine a_seq ?_
    refine a_seq ?_
    refine a_region ?_
    refine Pstep.go (st_move rfl rfl) ?_
    refine Pstep.go (st_move rfl rfl) ?_
    refine Pstep.go (st_lenO rfl Try.underlying24 rfl) ?_
    refine Pstep.go (st_lss rfl rfl rfl) ?_
    refine o_nil ?_
    refine a_if rfl (fun h19 => ?_) (fun h19 => ?_)
    · have hj1 : j < l.length := lt_cast h19
      refine a_skip ?_
      refine a_seq ?_
      refine a_block ?_
      refine a_seq ?_
      refine a_region ?_
      have hjc : j < c.length := by omega
      have hcj : c[j] = l[j] := by have h1 : (c.drop j)[0]? = (l.drop j)[0]? := by { rw [hcd] }; rw [List.getElem?_drop, List.getElem?_drop, Nat.add_zero, List.getElem?_eq_getElem hjc, List.getElem?_eq_getElem hj1] at h1; injection h1
      refine Pstep.go (st_move rfl rfl) ?_
      refine Pstep.go (st_move rfl rfl) ?_
      refine Pstep.go (st_indexO (j) rfl rfl (rfl) (hj1) rfl Try.underlying24 sz3 rfl) ?_
      refine Pstep.go (st_loadR rfl rfl (getm hjc) rfl on3 rfl) ?_
      refine Pstep.go (st_assign rfl rfl) ?_
      refine o_nil ?_
      refine a_seq ?_
      refine a_region ?_
      refine Pstep.go (st_move rfl rfl) ?_
      refine Pstep.go (st_move rfl rfl) ?_
      refine Pstep.go (st_callVP (settle2_p S c[j] hS) rfl rfl) ?_
      refine Pstep.go (st_notP rfl rfl) ?_
      refine o_nil ?_
      refine a_if rfl (fun h29 => ?_) (fun h29 => ?_)
      · have hkj : inS S l[j] = false := by rw [← hcj]; unfold inS; simpa using h29
        refine a_seq ?_
        refine a_region ?_
        refine Pstep.go (st_move rfl rfl) ?_
        refine Pstep.go (st_move rfl rfl) ?_
        refine Pstep.go (st_move rfl rfl) ?_
        refine Pstep.go (st_indexO (i) rfl rfl (rfl) ((by omega)) rfl Try.underlying24 sz3 rfl) ?_
        refine Estep.go (st_storeM (c) (c[j]) rfl rfl rfl rfl rfl rfl (by omega) rfl sz3) ?_
        refine o_nil ?_
        refine a_region ?_
        refine Pstep.go (st_move rfl rfl) ?_
        refine Pstep.go (st_add rfl rfl (wrapS (i + 1) (by omega)) rfl) ?_
        refine Pstep.go (st_assign rfl rfl) ?_
        refine o_nil ?_
        refine a_region ?_
        refine Pstep.go (st_move rfl rfl) ?_
        refine Pstep.go (st_add rfl rfl (wrapS (j + 1) (by omega)) rfl) ?_
        refine Pstep.go (st_assign rfl rfl) ?_
        refine o_nil ?_
        exact ⟨(i + 1, j + 1, _), ⟨by show j + 1 ≤ _; omega, by show i + 1 < j + 1; omega, by show (c.set i c[j]).length = _; rw [List.length_set]; exact hcl, by show (c.set i c[j]).take (i + 1) = kept S (l.take (j + 1)); rw [kept_in hj1 hkj, ← hct, List.take_succ_eq_append_getElem (by rw [List.length_set]; omega), List.getElem_set_self, List.take_set_of_le (Nat.le_refl i), hcj], by show (c.set i c[j]).drop (j + 1) = l.drop (j + 1); rw [List.drop_set_of_lt (by omega), ← List.tail_drop, ← List.tail_drop, hcd]⟩, by show l.length - (j + 1) < l.length - j; omega, lep_of hF [930] rfl (rfl) ⟨rfl, rfl, rfl, rfl, trivial⟩⟩
      · have hkj : inS S l[j] = true := by rw [← hcj]; unfold inS; simpa using h29
        refine a_skip ?_
        refine a_region ?_
        refine Pstep.go (st_move rfl rfl) ?_
        refine Pstep.go (st_add rfl rfl (wrapS (j + 1) (by omega)) rfl) ?_
        refine Pstep.go (st_assign rfl rfl) ?_
        refine o_nil ?_
        exact ⟨(i, j + 1, c), ⟨by show j + 1 ≤ _; omega, by show i < j + 1; omega, hcl, by show c.take i = kept S (l.take (j + 1)); rw [kept_out hj1 hkj, hct], by show c.drop (j + 1) = l.drop (j + 1); rw [← List.tail_drop, ← List.tail_drop, hcd]⟩, by show l.length - (j + 1) < l.length - j; omega, lep_of hF [930] rfl (rfl) ⟨rfl, rfl, rfl, rfl, trivial⟩⟩
    · refine a_exit ?_
      refine a_seq ?_
      have hje : j = l.length := by have h := h19; omega
      have hfin : c.take i = kept S l := by rw [hct, hje, List.take_length]
      have hil : i = (kept S l).length := by rw [← hfin, List.length_take]; omega
      refine a_region ?_
      refine Pstep.go (st_move rfl rfl) ?_
      refine Pstep.go (st_move rfl rfl) ?_
      refine o_clearTail (emb := intD) (zd := 0) c i rfl rfl rfl rfl hcl.symm rfl (by omega) Try.underlying24 sz3 Try.zeroValue3 rfl rfl rfl rfl rfl rfl ?_
      refine o_nil ?_
      refine a_seq ?_
      refine a_region ?_
      refine Pstep.go (st_move rfl rfl) ?_
      refine Pstep.go (st_move rfl rfl) ?_
      refine Pstep.go (st_sliceO (i) rfl rfl rfl (by simp only [List.length_map, List.length_append, List.length_take, List.length_replicate]; omega) rfl Try.underlying24 sz3 rfl) ?_
      refine Pstep.go (st_assign rfl rfl) ?_
      refine o_nil ?_
      refine a_ret ?_
      exact ⟨_, [930], _, res_of rfl, rfl, rfl, by rw [← hil], by rw [hfin, hcl, hil]⟩
end Go.Proofs.Ytfmpiabmnjmobaa
