/- The walks of the Reader. -/
import Derived.Test.YtjbghmlofjkcfaaCodI
namespace Go.Proofs.Ytjbghmlofjkcfaa
open Go.RowKit

/-- A reader's variable: its bytes, how far it has read, its error. -/
abbrev rH (b : List UInt8) (at_ e : Nat) : Hp := [(910, [.blk 65 [.d (bytesD b), .d (.raw (.int .i64 (at_ : Int))), .d (.raw (.int .i64 (e : Int)))]])]
abbrev RSt := Nat × Nat
/-- One reading. -/
def stepR {α : Type} (z : α) (dec : List UInt8 → α × Nat × Nat) (b : List UInt8) (s : RSt) : α × RSt := if s.2 = 0 then (if (dec (b.drop s.1)).2.2 = 0 then ((dec (b.drop s.1)).1, (s.1 + (dec (b.drop s.1)).2.1, 0)) else (z, (s.1, (dec (b.drop s.1)).2.2))) else (z, s)
theorem stepR_bad {α : Type} {z : α} {dec : List UInt8 → α × Nat × Nat} {b : List UInt8} {s : RSt} (h : ¬ s.2 = 0) : stepR z dec b s = (z, s) := by unfold stepR; rw [if_neg h]
theorem stepR_no {α : Type} {z : α} {dec : List UInt8 → α × Nat × Nat} {b : List UInt8} {s : RSt} (h : s.2 = 0) (h2 : ¬ (dec (b.drop s.1)).2.2 = 0) : stepR z dec b s = (z, (s.1, (dec (b.drop s.1)).2.2)) := by unfold stepR; rw [if_pos h, if_neg h2]
theorem stepR_ok {α : Type} {z : α} {dec : List UInt8 → α × Nat × Nat} {b : List UInt8} {s : RSt} (h : s.2 = 0) (h2 : (dec (b.drop s.1)).2.2 = 0) : stepR z dec b s = ((dec (b.drop s.1)).1, (s.1 + (dec (b.drop s.1)).2.1, 0)) := by unfold stepR; rw [if_pos h, if_pos h2]
/-- A decoder that keeps within its bytes. -/
def Fits {α : Type} (dec : List UInt8 → α × Nat × Nat) : Prop := ∀ b, (dec b).2.1 ≤ b.length
theorem rdU_len (b : List UInt8) : ∀ i x, (rdU i x b).2.1 ≤ i + b.length := by
  induction b with
  | nil => intro i x; simp [rdU]
  | cons c r ih =>
    intro i x
    simp only [rdU]
    split
    · simp
    · split
      · have := ih (i + 1) (x + c.toNat % 128 * 128 ^ i); simp only [List.length_cons]; omega
      · split
        · simp
        · simp only [List.length_cons]; omega
theorem rdU_fits : Fits (rdU 0 0) := fun b => by have := rdU_len b 0 0; omega

/-- value's contract, at a type T of answers. -/
def ValueC (f : FuncId) {α : Type} (emb : α → D) (z : α) : Prop := ∀ (g : FuncId) (dec : List UInt8 → α × Nat × Nat) (b : List UInt8) (s : RSt), s.1 ≤ b.length → b.length ≤ 1000000000000 → Fits dec →
  PCalls Try.prog g [.d (bytesD (b.drop s.1))] (.tup [emb (dec (b.drop s.1)).1, .raw (.int .i64 ((dec (b.drop s.1)).2.1 : Int)), .raw (.int .i64 ((dec (b.drop s.1)).2.2 : Int))]) →
  ACalls Try.prog f [.ptr 910 0 0, .d (fnD g)] (rH b s.1 s.2) fun r H' => r = .d (emb (stepR z dec b s).1) ∧ H' = rH b (stepR z dec b s).2.1 (stepR z dec b s).2.2
set_option maxHeartbeats 1000000 in
theorem valueU : ValueC 45 (fun n : Nat => .raw (.int .u64 (n : Int))) 0 := by
  intro g dec b s hs hb hfit hg
  obtain ⟨at_, e⟩ := s
  dsimp only at hs hg ⊢
  have hn := hfit (b.drop at_)
  rw [List.length_drop] at hn
  refine a_enter Try.func45 rfl rfl Try.ntmps45 rfl rfl rfl fun F hF => ?_
  refine a_seq ?_
  refine a_region ?_
  refine Pstep.go (st_assign rfl rfl) ?_
  refine o_nil ?_
  refine a_seq ?_
  refine a_region ?_
  refine Pstep.go (st_assign rfl rfl) ?_
  refine o_nil ?_
  refine a_seq ?_
  refine a_seq ?_
  refine a_region ?_
  refine Pstep.go (st_move rfl rfl) ?_
  first | refine Pstep.go (st_eql rfl rfl rfl) ?_ | refine Pstep.go (st_eqlSL rfl rfl rfl) ?_ | refine Pstep.go (st_eqlS rfl rfl rfl) ?_ | refine Pstep.go (st_eqlB Try.underlying39 rfl rfl rfl) ?_ | refine Pstep.go (st_eqlP Try.underlying39 rfl rfl rfl) ?_ | refine Pstep.go (st_eqlN Try.underlying39 rfl rfl) ?_ | refine Pstep.go (st_eqlF Try.underlying39 rfl rfl rfl) ?_ | refine Pstep.go (st_eqlFN Try.underlying39 rfl rfl) ?_
  refine Pstep.go (st_move rfl rfl) ?_
  refine o_setF 11 rfl (rfl) ?_
  refine o_run rfl rfl rfl ?_
  refine Pstep.go (st_move rfl rfl) ?_
  refine o_run rfl rfl rfl ?_
  first | refine Pstep.go (st_nilCheckP rfl rfl) ?_ | refine Pstep.go (st_nilCheckD rfl rfl) ?_ | refine Pstep.go (st_nilCheckR rfl rfl) ?_
  refine o_run rfl rfl rfl ?_
  first | refine Pstep.go (st_fieldP rfl fi65_2 rfl rfl rfl) ?_ | refine Pstep.go (st_fieldF1 rfl fi65_2 rfl rfl rfl) ?_ | refine Pstep.go (st_fieldFS rfl fi65_2 rfl rfl rfl) ?_ | refine Pstep.go (st_fieldR rfl fi65_2 rfl rfl rfl) ?_
  refine o_run rfl rfl rfl ?_
  first | refine Pstep.go (st_loadD1 rfl rfl on38 rfl) ?_ | refine Pstep.go (st_loadP rfl rfl rfl on38 rfl) ?_ | refine Pstep.go (st_loadR rfl rfl (rfl) rfl on38 rfl) ?_
  refine o_run rfl rfl rfl ?_
  first | refine Pstep.go (st_neq rfl rfl rfl) ?_ | refine Pstep.go (st_neqSL rfl rfl rfl) ?_ | refine Pstep.go (st_neqS rfl rfl rfl) ?_ | refine Pstep.go (st_neqB Try.underlying38 rfl rfl rfl) ?_ | refine Pstep.go (st_neqP Try.underlying38 rfl rfl rfl) ?_ | refine Pstep.go (st_neqN Try.underlying38 rfl rfl) ?_ | refine Pstep.go (st_neqF Try.underlying38 rfl rfl rfl) ?_ | refine Pstep.go (st_neqFN Try.underlying38 rfl rfl) ?_
  refine Pstep.go (st_pickF rfl rfl rfl rfl) ?_
  refine o_nil ?_
  first | refine a_if rfl (fun h17 => ?_) (fun h17 => ?_) | refine a_cond rfl (fun h17 => ?_) (fun h17 => ?_)
  · have he : ¬ e = 0 := by have h := h17; omega
    refine a_seq ?_
    refine a_region ?_
    refine Pstep.go (st_move rfl rfl) ?_
    refine Pstep.go (st_assign rfl rfl) ?_
    refine o_nil ?_
    refine a_ret ?_
    exact ⟨_, [910], _, res_of rfl, rfl, rfl, by rw [stepR_bad he] <;> rfl, by rw [stepR_bad he] <;> rfl⟩
  · have he : e = 0 := by have h := h17; omega
    refine a_skip ?_
    refine a_seq ?_
    refine a_drawn [[], [], [1], [1, 2], [1, 2, 3], [], [5], [5, 6], [5, 6, 7], [1, 2, 3, 4, 5, 6, 7, 8], [0, 1, 2, 3, 4, 5, 6, 7, 8, 9], [0, 1, 2, 3, 4, 5, 6, 7, 8, 9, 10], [0, 1, 2, 3, 4, 5, 6, 7, 8, 9, 10, 11], [0, 1, 2, 3, 4, 5, 6, 7, 8, 9, 10, 11], [0, 1, 2, 3, 4, 5, 6, 7, 8, 9, 10, 11], [0, 1, 2, 3, 4, 5, 6, 7, 8, 9, 10, 11, 12], [0, 1, 2, 3, 4, 5, 6, 7, 8, 9, 10, 11, 12, 13, 15], [0, 1, 2, 3, 4, 5, 6, 7, 8, 9, 10, 11, 12, 13, 14, 15, 16]] mixed rfl ?_
    refine dws ?_
    first | refine d_pure [1] [] rfl rfl (fun _ => gp_none (st_move rfl rfl)) ?_ | refine d_pureA [1] rfl rfl (fun _ => gp_none (st_move rfl rfl)) ?_
    first | refine d_pure [0] [] rfl rfl (fun _ => gp_none (st_move rfl rfl)) ?_ | refine d_pureA [0] rfl rfl (fun _ => gp_none (st_move rfl rfl)) ?_
    first | refine d_pure [21] [] rfl rfl (fun _ => gp_none (st_nilCheckP rfl rfl)) ?_ | refine d_pureA [21] rfl rfl (fun _ => gp_none (st_nilCheckP rfl rfl)) ?_ | refine d_pure [21] [] rfl rfl (fun _ => gp_none (st_nilCheckD rfl rfl)) ?_ | refine d_pureA [21] rfl rfl (fun _ => gp_none (st_nilCheckD rfl rfl)) ?_ | refine d_pure [21] [] rfl rfl (fun _ => gp_none (st_nilCheckR rfl rfl)) ?_ | refine d_pureA [21] rfl rfl (fun _ => gp_none (st_nilCheckR rfl rfl)) ?_
    first | refine d_pure [22] [] rfl rfl (fun _ => gp_none (st_fieldP rfl fi65_0 rfl rfl rfl)) ?_ | refine d_pureA [22] rfl rfl (fun _ => gp_none (st_fieldP rfl fi65_0 rfl rfl rfl)) ?_ | refine d_pure [22] [] rfl rfl (fun _ => gp_none (st_fieldF1 rfl fi65_0 rfl rfl rfl)) ?_ | refine d_pureA [22] rfl rfl (fun _ => gp_none (st_fieldF1 rfl fi65_0 rfl rfl rfl)) ?_ | refine d_pure [22] [] rfl rfl (fun _ => gp_none (st_fieldFS rfl fi65_0 rfl rfl rfl)) ?_ | refine d_pureA [22] rfl rfl (fun _ => gp_none (st_fieldFS rfl fi65_0 rfl rfl rfl)) ?_ | refine d_pure [22] [] rfl rfl (fun _ => gp_none (st_fieldR rfl fi65_0 rfl rfl rfl)) ?_ | refine d_pureA [22] rfl rfl (fun _ => gp_none (st_fieldR rfl fi65_0 rfl rfl rfl)) ?_
    first | refine d_pure [23] [] rfl rfl (fun _ => gp_none (st_loadD1 rfl rfl on27 rfl)) ?_ | refine d_pureA [23] rfl rfl (fun _ => gp_none (st_loadD1 rfl rfl on27 rfl)) ?_ | refine d_pure [23] [] rfl rfl (fun _ => gp_none (st_loadP rfl rfl rfl on27 rfl)) ?_ | refine d_pureA [23] rfl rfl (fun _ => gp_none (st_loadP rfl rfl rfl on27 rfl)) ?_ | refine d_pure [23] [] rfl rfl (fun _ => gp_none (st_loadR rfl rfl (rfl) rfl on27 rfl)) ?_ | refine d_pureA [23] rfl rfl (fun _ => gp_none (st_loadR rfl rfl (rfl) rfl on27 rfl)) ?_
    first | refine d_pure [0] [] rfl rfl (fun _ => gp_none (st_move rfl rfl)) ?_ | refine d_pureA [0] rfl rfl (fun _ => gp_none (st_move rfl rfl)) ?_
    first | refine d_pure [25] [] rfl rfl (fun _ => gp_none (st_nilCheckP rfl rfl)) ?_ | refine d_pureA [25] rfl rfl (fun _ => gp_none (st_nilCheckP rfl rfl)) ?_ | refine d_pure [25] [] rfl rfl (fun _ => gp_none (st_nilCheckD rfl rfl)) ?_ | refine d_pureA [25] rfl rfl (fun _ => gp_none (st_nilCheckD rfl rfl)) ?_ | refine d_pure [25] [] rfl rfl (fun _ => gp_none (st_nilCheckR rfl rfl)) ?_ | refine d_pureA [25] rfl rfl (fun _ => gp_none (st_nilCheckR rfl rfl)) ?_
    first | refine d_pure [26] [] rfl rfl (fun _ => gp_none (st_fieldP rfl fi65_1 rfl rfl rfl)) ?_ | refine d_pureA [26] rfl rfl (fun _ => gp_none (st_fieldP rfl fi65_1 rfl rfl rfl)) ?_ | refine d_pure [26] [] rfl rfl (fun _ => gp_none (st_fieldF1 rfl fi65_1 rfl rfl rfl)) ?_ | refine d_pureA [26] rfl rfl (fun _ => gp_none (st_fieldF1 rfl fi65_1 rfl rfl rfl)) ?_ | refine d_pure [26] [] rfl rfl (fun _ => gp_none (st_fieldFS rfl fi65_1 rfl rfl rfl)) ?_ | refine d_pureA [26] rfl rfl (fun _ => gp_none (st_fieldFS rfl fi65_1 rfl rfl rfl)) ?_ | refine d_pure [26] [] rfl rfl (fun _ => gp_none (st_fieldR rfl fi65_1 rfl rfl rfl)) ?_ | refine d_pureA [26] rfl rfl (fun _ => gp_none (st_fieldR rfl fi65_1 rfl rfl rfl)) ?_
    first | refine d_pure [27] [] rfl rfl (fun _ => gp_none (st_loadD1 rfl rfl on3 rfl)) ?_ | refine d_pureA [27] rfl rfl (fun _ => gp_none (st_loadD1 rfl rfl on3 rfl)) ?_ | refine d_pure [27] [] rfl rfl (fun _ => gp_none (st_loadP rfl rfl rfl on3 rfl)) ?_ | refine d_pureA [27] rfl rfl (fun _ => gp_none (st_loadP rfl rfl rfl on3 rfl)) ?_ | refine d_pure [27] [] rfl rfl (fun _ => gp_none (st_loadR rfl rfl (rfl) rfl on3 rfl)) ?_ | refine d_pureA [27] rfl rfl (fun _ => gp_none (st_loadR rfl rfl (rfl) rfl on3 rfl)) ?_
    first | refine d_pure [24, 28] [] rfl rfl (fun _ => gp_none (st_sliceLoM (b) (at_) rfl rfl rfl (rfl) (hs) Try.underlying27 sz5 (fun _ => rfl) rfl)) ?_ | refine d_pureA [24, 28] rfl rfl (fun _ => gp_none (st_sliceLoM (b) (at_) rfl rfl rfl (rfl) (hs) Try.underlying27 sz5 (fun _ => rfl) rfl)) ?_
    refine dwc 10 rfl rfl rfl ?_
    refine dw1 11 rfl rfl ?_
    refine Pstep.go (st_callVP hg rfl rfl) ?_
    refine o_nil ⟨rfl, ?_⟩
    refine dw1 12 rfl rfl ?_
    refine Pstep.go (st_move rfl rfl) ?_
    refine o_nil ⟨rfl, ?_⟩
    refine dws ?_
    first | refine d_pure [19] [] rfl rfl (fun _ => gp_none (st_extractD rfl rfl rfl)) ?_ | refine d_pureA [19] rfl rfl (fun _ => gp_none (st_extractD rfl rfl rfl)) ?_ | refine d_pure [19] [] rfl rfl (fun _ => gp_none (st_extract rfl rfl rfl)) ?_ | refine d_pureA [19] rfl rfl (fun _ => gp_none (st_extract rfl rfl rfl)) ?_
    first | refine d_pure [19] [] rfl rfl (fun _ => gp_none (st_extractD rfl rfl rfl)) ?_ | refine d_pureA [19] rfl rfl (fun _ => gp_none (st_extractD rfl rfl rfl)) ?_ | refine d_pure [19] [] rfl rfl (fun _ => gp_none (st_extract rfl rfl rfl)) ?_ | refine d_pureA [19] rfl rfl (fun _ => gp_none (st_extract rfl rfl rfl)) ?_
    first | refine d_pure [19] [] rfl rfl (fun _ => gp_none (st_extractD rfl rfl rfl)) ?_ | refine d_pureA [19] rfl rfl (fun _ => gp_none (st_extractD rfl rfl rfl)) ?_ | refine d_pure [19] [] rfl rfl (fun _ => gp_none (st_extract rfl rfl rfl)) ?_ | refine d_pureA [19] rfl rfl (fun _ => gp_none (st_extract rfl rfl rfl)) ?_
    first | refine d_pure [31] [] rfl rfl (fun _ => gp_none (st_assign rfl rfl)) ?_ | refine d_pureA [31] rfl rfl (fun _ => gp_none (st_assign rfl rfl)) ?_
    first | refine d_pure [32] [] rfl rfl (fun _ => gp_none (st_assign rfl rfl)) ?_ | refine d_pureA [32] rfl rfl (fun _ => gp_none (st_assign rfl rfl)) ?_
    refine dwc 17 rfl rfl rfl ?_
    refine dw1 18 rfl rfl ?_
    refine Pstep.go (st_assign rfl rfl) ?_
    refine o_nil ⟨rfl, ?_⟩
    refine dwe ?_
    refine a_seq ?_
    refine a_seq ?_
    refine a_region ?_
    refine Pstep.go (st_move rfl rfl) ?_
    first | refine Pstep.go (st_neq rfl rfl rfl) ?_ | refine Pstep.go (st_neqSL rfl rfl rfl) ?_ | refine Pstep.go (st_neqS rfl rfl rfl) ?_ | refine Pstep.go (st_neqB Try.underlying38 rfl rfl rfl) ?_ | refine Pstep.go (st_neqP Try.underlying38 rfl rfl rfl) ?_ | refine Pstep.go (st_neqN Try.underlying38 rfl rfl) ?_ | refine Pstep.go (st_neqF Try.underlying38 rfl rfl rfl) ?_ | refine Pstep.go (st_neqFN Try.underlying38 rfl rfl) ?_
    refine o_nil ?_
    first | refine a_if rfl (fun h35 => ?_) (fun h35 => ?_) | refine a_cond rfl (fun h35 => ?_) (fun h35 => ?_)
    · have he2 : ¬ (dec (b.drop at_)).2.2 = 0 := by have h := h35; omega
      refine a_seq ?_
      refine a_region ?_
      refine Pstep.go (st_move rfl rfl) ?_
      refine Pstep.go (st_move rfl rfl) ?_
      first | refine Pstep.go (st_nilCheckP rfl rfl) ?_ | refine Pstep.go (st_nilCheckD rfl rfl) ?_ | refine Pstep.go (st_nilCheckR rfl rfl) ?_
      first | refine Pstep.go (st_fieldP rfl fi65_2 rfl rfl rfl) ?_ | refine Pstep.go (st_fieldF1 rfl fi65_2 rfl rfl rfl) ?_ | refine Pstep.go (st_fieldFS rfl fi65_2 rfl rfl rfl) ?_ | refine Pstep.go (st_fieldR rfl fi65_2 rfl rfl rfl) ?_
      refine Estep.go (st_storeP rfl rfl rfl rfl rfl rfl rfl sz38) ?_
      refine o_nil ?_
      refine a_seq ?_
      refine a_region ?_
      refine Pstep.go (st_move rfl rfl) ?_
      refine Pstep.go (st_assign rfl rfl) ?_
      refine o_nil ?_
      refine a_ret ?_
      exact ⟨_, [910], _, res_of rfl, rfl, rfl, by rw [stepR_no he he2] <;> rfl, by rw [stepR_no he he2] <;> rfl⟩
    · have he2 : (dec (b.drop at_)).2.2 = 0 := by have h := h35; omega
      refine a_skip ?_
      refine a_seq ?_
      refine a_region ?_
      refine Pstep.go (st_move rfl rfl) ?_
      first | refine Pstep.go (st_nilCheckP rfl rfl) ?_ | refine Pstep.go (st_nilCheckD rfl rfl) ?_ | refine Pstep.go (st_nilCheckR rfl rfl) ?_
      first | refine Pstep.go (st_fieldP rfl fi65_1 rfl rfl rfl) ?_ | refine Pstep.go (st_fieldF1 rfl fi65_1 rfl rfl rfl) ?_ | refine Pstep.go (st_fieldFS rfl fi65_1 rfl rfl rfl) ?_ | refine Pstep.go (st_fieldR rfl fi65_1 rfl rfl rfl) ?_
      first | refine Pstep.go (st_loadD1 rfl rfl on3 rfl) ?_ | refine Pstep.go (st_loadP rfl rfl rfl on3 rfl) ?_ | refine Pstep.go (st_loadR rfl rfl (rfl) rfl on3 rfl) ?_
      refine Pstep.go (st_move rfl rfl) ?_
      refine Pstep.go (st_add rfl rfl (IntWalk.i64_in _ (by omega)) rfl) ?_
      first | refine Pstep.go (st_nilCheckP rfl rfl) ?_ | refine Pstep.go (st_nilCheckD rfl rfl) ?_ | refine Pstep.go (st_nilCheckR rfl rfl) ?_
      first | refine Pstep.go (st_fieldP rfl fi65_1 rfl rfl rfl) ?_ | refine Pstep.go (st_fieldF1 rfl fi65_1 rfl rfl rfl) ?_ | refine Pstep.go (st_fieldFS rfl fi65_1 rfl rfl rfl) ?_ | refine Pstep.go (st_fieldR rfl fi65_1 rfl rfl rfl) ?_
      refine Estep.go (st_storeP rfl rfl rfl rfl rfl rfl rfl sz3) ?_
      refine o_nil ?_
      refine a_seq ?_
      refine a_region ?_
      refine Pstep.go (st_move rfl rfl) ?_
      refine Pstep.go (st_assign rfl rfl) ?_
      refine o_nil ?_
      refine a_ret ?_
      subst he
      exact ⟨_, [910], _, res_of rfl, rfl, rfl, by rw [stepR_ok rfl he2] <;> rfl, by rw [stepR_ok rfl he2] <;> rfl⟩
set_option maxHeartbeats 1000000 in
theorem valueB : ValueC 47 (fun x : Bool => .raw (.bool x)) false := by
  intro g dec b s hs hb hfit hg
  obtain ⟨at_, e⟩ := s
  dsimp only at hs hg ⊢
  have hn := hfit (b.drop at_)
  rw [List.length_drop] at hn
  refine a_enter Try.func47 rfl rfl Try.ntmps47 rfl rfl rfl fun F hF => ?_
  refine a_seq ?_
  refine a_region ?_
  refine Pstep.go (st_assign rfl rfl) ?_
  refine o_nil ?_
  refine a_seq ?_
  refine a_region ?_
  refine Pstep.go (st_assign rfl rfl) ?_
  refine o_nil ?_
  refine a_seq ?_
  refine a_seq ?_
  refine a_region ?_
  refine Pstep.go (st_move rfl rfl) ?_
  first | refine Pstep.go (st_eql rfl rfl rfl) ?_ | refine Pstep.go (st_eqlSL rfl rfl rfl) ?_ | refine Pstep.go (st_eqlS rfl rfl rfl) ?_ | refine Pstep.go (st_eqlB Try.underlying39 rfl rfl rfl) ?_ | refine Pstep.go (st_eqlP Try.underlying39 rfl rfl rfl) ?_ | refine Pstep.go (st_eqlN Try.underlying39 rfl rfl) ?_ | refine Pstep.go (st_eqlF Try.underlying39 rfl rfl rfl) ?_ | refine Pstep.go (st_eqlFN Try.underlying39 rfl rfl) ?_
  refine Pstep.go (st_move rfl rfl) ?_
  refine o_setF 11 rfl (rfl) ?_
  refine o_run rfl rfl rfl ?_
  refine Pstep.go (st_move rfl rfl) ?_
  refine o_run rfl rfl rfl ?_
  first | refine Pstep.go (st_nilCheckP rfl rfl) ?_ | refine Pstep.go (st_nilCheckD rfl rfl) ?_ | refine Pstep.go (st_nilCheckR rfl rfl) ?_
  refine o_run rfl rfl rfl ?_
  first | refine Pstep.go (st_fieldP rfl fi65_2 rfl rfl rfl) ?_ | refine Pstep.go (st_fieldF1 rfl fi65_2 rfl rfl rfl) ?_ | refine Pstep.go (st_fieldFS rfl fi65_2 rfl rfl rfl) ?_ | refine Pstep.go (st_fieldR rfl fi65_2 rfl rfl rfl) ?_
  refine o_run rfl rfl rfl ?_
  first | refine Pstep.go (st_loadD1 rfl rfl on38 rfl) ?_ | refine Pstep.go (st_loadP rfl rfl rfl on38 rfl) ?_ | refine Pstep.go (st_loadR rfl rfl (rfl) rfl on38 rfl) ?_
  refine o_run rfl rfl rfl ?_
  first | refine Pstep.go (st_neq rfl rfl rfl) ?_ | refine Pstep.go (st_neqSL rfl rfl rfl) ?_ | refine Pstep.go (st_neqS rfl rfl rfl) ?_ | refine Pstep.go (st_neqB Try.underlying38 rfl rfl rfl) ?_ | refine Pstep.go (st_neqP Try.underlying38 rfl rfl rfl) ?_ | refine Pstep.go (st_neqN Try.underlying38 rfl rfl) ?_ | refine Pstep.go (st_neqF Try.underlying38 rfl rfl rfl) ?_ | refine Pstep.go (st_neqFN Try.underlying38 rfl rfl) ?_
  refine Pstep.go (st_pickF rfl rfl rfl rfl) ?_
  refine o_nil ?_
  first | refine a_if rfl (fun h17 => ?_) (fun h17 => ?_) | refine a_cond rfl (fun h17 => ?_) (fun h17 => ?_)
  · have he : ¬ e = 0 := by have h := h17; omega
    refine a_seq ?_
    refine a_region ?_
    refine Pstep.go (st_move rfl rfl) ?_
    refine Pstep.go (st_assign rfl rfl) ?_
    refine o_nil ?_
    refine a_ret ?_
    exact ⟨_, [910], _, res_of rfl, rfl, rfl, by rw [stepR_bad he] <;> rfl, by rw [stepR_bad he] <;> rfl⟩
  · have he : e = 0 := by have h := h17; omega
    refine a_skip ?_
    refine a_seq ?_
    refine a_drawn [[], [], [1], [1, 2], [1, 2, 3], [], [5], [5, 6], [5, 6, 7], [1, 2, 3, 4, 5, 6, 7, 8], [0, 1, 2, 3, 4, 5, 6, 7, 8, 9], [0, 1, 2, 3, 4, 5, 6, 7, 8, 9, 10], [0, 1, 2, 3, 4, 5, 6, 7, 8, 9, 10, 11], [0, 1, 2, 3, 4, 5, 6, 7, 8, 9, 10, 11], [0, 1, 2, 3, 4, 5, 6, 7, 8, 9, 10, 11], [0, 1, 2, 3, 4, 5, 6, 7, 8, 9, 10, 11, 12], [0, 1, 2, 3, 4, 5, 6, 7, 8, 9, 10, 11, 12, 13, 15], [0, 1, 2, 3, 4, 5, 6, 7, 8, 9, 10, 11, 12, 13, 14, 15, 16]] mixed rfl ?_
    refine dws ?_
    first | refine d_pure [1] [] rfl rfl (fun _ => gp_none (st_move rfl rfl)) ?_ | refine d_pureA [1] rfl rfl (fun _ => gp_none (st_move rfl rfl)) ?_
    first | refine d_pure [0] [] rfl rfl (fun _ => gp_none (st_move rfl rfl)) ?_ | refine d_pureA [0] rfl rfl (fun _ => gp_none (st_move rfl rfl)) ?_
    first | refine d_pure [21] [] rfl rfl (fun _ => gp_none (st_nilCheckP rfl rfl)) ?_ | refine d_pureA [21] rfl rfl (fun _ => gp_none (st_nilCheckP rfl rfl)) ?_ | refine d_pure [21] [] rfl rfl (fun _ => gp_none (st_nilCheckD rfl rfl)) ?_ | refine d_pureA [21] rfl rfl (fun _ => gp_none (st_nilCheckD rfl rfl)) ?_ | refine d_pure [21] [] rfl rfl (fun _ => gp_none (st_nilCheckR rfl rfl)) ?_ | refine d_pureA [21] rfl rfl (fun _ => gp_none (st_nilCheckR rfl rfl)) ?_
    first | refine d_pure [22] [] rfl rfl (fun _ => gp_none (st_fieldP rfl fi65_0 rfl rfl rfl)) ?_ | refine d_pureA [22] rfl rfl (fun _ => gp_none (st_fieldP rfl fi65_0 rfl rfl rfl)) ?_ | refine d_pure [22] [] rfl rfl (fun _ => gp_none (st_fieldF1 rfl fi65_0 rfl rfl rfl)) ?_ | refine d_pureA [22] rfl rfl (fun _ => gp_none (st_fieldF1 rfl fi65_0 rfl rfl rfl)) ?_ | refine d_pure [22] [] rfl rfl (fun _ => gp_none (st_fieldFS rfl fi65_0 rfl rfl rfl)) ?_ | refine d_pureA [22] rfl rfl (fun _ => gp_none (st_fieldFS rfl fi65_0 rfl rfl rfl)) ?_ | refine d_pure [22] [] rfl rfl (fun _ => gp_none (st_fieldR rfl fi65_0 rfl rfl rfl)) ?_ | refine d_pureA [22] rfl rfl (fun _ => gp_none (st_fieldR rfl fi65_0 rfl rfl rfl)) ?_
    first | refine d_pure [23] [] rfl rfl (fun _ => gp_none (st_loadD1 rfl rfl on27 rfl)) ?_ | refine d_pureA [23] rfl rfl (fun _ => gp_none (st_loadD1 rfl rfl on27 rfl)) ?_ | refine d_pure [23] [] rfl rfl (fun _ => gp_none (st_loadP rfl rfl rfl on27 rfl)) ?_ | refine d_pureA [23] rfl rfl (fun _ => gp_none (st_loadP rfl rfl rfl on27 rfl)) ?_ | refine d_pure [23] [] rfl rfl (fun _ => gp_none (st_loadR rfl rfl (rfl) rfl on27 rfl)) ?_ | refine d_pureA [23] rfl rfl (fun _ => gp_none (st_loadR rfl rfl (rfl) rfl on27 rfl)) ?_
    first | refine d_pure [0] [] rfl rfl (fun _ => gp_none (st_move rfl rfl)) ?_ | refine d_pureA [0] rfl rfl (fun _ => gp_none (st_move rfl rfl)) ?_
    first | refine d_pure [25] [] rfl rfl (fun _ => gp_none (st_nilCheckP rfl rfl)) ?_ | refine d_pureA [25] rfl rfl (fun _ => gp_none (st_nilCheckP rfl rfl)) ?_ | refine d_pure [25] [] rfl rfl (fun _ => gp_none (st_nilCheckD rfl rfl)) ?_ | refine d_pureA [25] rfl rfl (fun _ => gp_none (st_nilCheckD rfl rfl)) ?_ | refine d_pure [25] [] rfl rfl (fun _ => gp_none (st_nilCheckR rfl rfl)) ?_ | refine d_pureA [25] rfl rfl (fun _ => gp_none (st_nilCheckR rfl rfl)) ?_
    first | refine d_pure [26] [] rfl rfl (fun _ => gp_none (st_fieldP rfl fi65_1 rfl rfl rfl)) ?_ | refine d_pureA [26] rfl rfl (fun _ => gp_none (st_fieldP rfl fi65_1 rfl rfl rfl)) ?_ | refine d_pure [26] [] rfl rfl (fun _ => gp_none (st_fieldF1 rfl fi65_1 rfl rfl rfl)) ?_ | refine d_pureA [26] rfl rfl (fun _ => gp_none (st_fieldF1 rfl fi65_1 rfl rfl rfl)) ?_ | refine d_pure [26] [] rfl rfl (fun _ => gp_none (st_fieldFS rfl fi65_1 rfl rfl rfl)) ?_ | refine d_pureA [26] rfl rfl (fun _ => gp_none (st_fieldFS rfl fi65_1 rfl rfl rfl)) ?_ | refine d_pure [26] [] rfl rfl (fun _ => gp_none (st_fieldR rfl fi65_1 rfl rfl rfl)) ?_ | refine d_pureA [26] rfl rfl (fun _ => gp_none (st_fieldR rfl fi65_1 rfl rfl rfl)) ?_
    first | refine d_pure [27] [] rfl rfl (fun _ => gp_none (st_loadD1 rfl rfl on3 rfl)) ?_ | refine d_pureA [27] rfl rfl (fun _ => gp_none (st_loadD1 rfl rfl on3 rfl)) ?_ | refine d_pure [27] [] rfl rfl (fun _ => gp_none (st_loadP rfl rfl rfl on3 rfl)) ?_ | refine d_pureA [27] rfl rfl (fun _ => gp_none (st_loadP rfl rfl rfl on3 rfl)) ?_ | refine d_pure [27] [] rfl rfl (fun _ => gp_none (st_loadR rfl rfl (rfl) rfl on3 rfl)) ?_ | refine d_pureA [27] rfl rfl (fun _ => gp_none (st_loadR rfl rfl (rfl) rfl on3 rfl)) ?_
    first | refine d_pure [24, 28] [] rfl rfl (fun _ => gp_none (st_sliceLoM (b) (at_) rfl rfl rfl (rfl) (hs) Try.underlying27 sz5 (fun _ => rfl) rfl)) ?_ | refine d_pureA [24, 28] rfl rfl (fun _ => gp_none (st_sliceLoM (b) (at_) rfl rfl rfl (rfl) (hs) Try.underlying27 sz5 (fun _ => rfl) rfl)) ?_
    refine dwc 10 rfl rfl rfl ?_
    refine dw1 11 rfl rfl ?_
    refine Pstep.go (st_callVP hg rfl rfl) ?_
    refine o_nil ⟨rfl, ?_⟩
    refine dw1 12 rfl rfl ?_
    refine Pstep.go (st_move rfl rfl) ?_
    refine o_nil ⟨rfl, ?_⟩
    refine dws ?_
    first | refine d_pure [19] [] rfl rfl (fun _ => gp_none (st_extractD rfl rfl rfl)) ?_ | refine d_pureA [19] rfl rfl (fun _ => gp_none (st_extractD rfl rfl rfl)) ?_ | refine d_pure [19] [] rfl rfl (fun _ => gp_none (st_extract rfl rfl rfl)) ?_ | refine d_pureA [19] rfl rfl (fun _ => gp_none (st_extract rfl rfl rfl)) ?_
    first | refine d_pure [19] [] rfl rfl (fun _ => gp_none (st_extractD rfl rfl rfl)) ?_ | refine d_pureA [19] rfl rfl (fun _ => gp_none (st_extractD rfl rfl rfl)) ?_ | refine d_pure [19] [] rfl rfl (fun _ => gp_none (st_extract rfl rfl rfl)) ?_ | refine d_pureA [19] rfl rfl (fun _ => gp_none (st_extract rfl rfl rfl)) ?_
    first | refine d_pure [19] [] rfl rfl (fun _ => gp_none (st_extractD rfl rfl rfl)) ?_ | refine d_pureA [19] rfl rfl (fun _ => gp_none (st_extractD rfl rfl rfl)) ?_ | refine d_pure [19] [] rfl rfl (fun _ => gp_none (st_extract rfl rfl rfl)) ?_ | refine d_pureA [19] rfl rfl (fun _ => gp_none (st_extract rfl rfl rfl)) ?_
    first | refine d_pure [31] [] rfl rfl (fun _ => gp_none (st_assign rfl rfl)) ?_ | refine d_pureA [31] rfl rfl (fun _ => gp_none (st_assign rfl rfl)) ?_
    first | refine d_pure [32] [] rfl rfl (fun _ => gp_none (st_assign rfl rfl)) ?_ | refine d_pureA [32] rfl rfl (fun _ => gp_none (st_assign rfl rfl)) ?_
    refine dwc 17 rfl rfl rfl ?_
    refine dw1 18 rfl rfl ?_
    refine Pstep.go (st_assign rfl rfl) ?_
    refine o_nil ⟨rfl, ?_⟩
    refine dwe ?_
    refine a_seq ?_
    refine a_seq ?_
    refine a_region ?_
    refine Pstep.go (st_move rfl rfl) ?_
    first | refine Pstep.go (st_neq rfl rfl rfl) ?_ | refine Pstep.go (st_neqSL rfl rfl rfl) ?_ | refine Pstep.go (st_neqS rfl rfl rfl) ?_ | refine Pstep.go (st_neqB Try.underlying38 rfl rfl rfl) ?_ | refine Pstep.go (st_neqP Try.underlying38 rfl rfl rfl) ?_ | refine Pstep.go (st_neqN Try.underlying38 rfl rfl) ?_ | refine Pstep.go (st_neqF Try.underlying38 rfl rfl rfl) ?_ | refine Pstep.go (st_neqFN Try.underlying38 rfl rfl) ?_
    refine o_nil ?_
    first | refine a_if rfl (fun h35 => ?_) (fun h35 => ?_) | refine a_cond rfl (fun h35 => ?_) (fun h35 => ?_)
    · have he2 : ¬ (dec (b.drop at_)).2.2 = 0 := by have h := h35; omega
      refine a_seq ?_
      refine a_region ?_
      refine Pstep.go (st_move rfl rfl) ?_
      refine Pstep.go (st_move rfl rfl) ?_
      first | refine Pstep.go (st_nilCheckP rfl rfl) ?_ | refine Pstep.go (st_nilCheckD rfl rfl) ?_ | refine Pstep.go (st_nilCheckR rfl rfl) ?_
      first | refine Pstep.go (st_fieldP rfl fi65_2 rfl rfl rfl) ?_ | refine Pstep.go (st_fieldF1 rfl fi65_2 rfl rfl rfl) ?_ | refine Pstep.go (st_fieldFS rfl fi65_2 rfl rfl rfl) ?_ | refine Pstep.go (st_fieldR rfl fi65_2 rfl rfl rfl) ?_
      refine Estep.go (st_storeP rfl rfl rfl rfl rfl rfl rfl sz38) ?_
      refine o_nil ?_
      refine a_seq ?_
      refine a_region ?_
      refine Pstep.go (st_move rfl rfl) ?_
      refine Pstep.go (st_assign rfl rfl) ?_
      refine o_nil ?_
      refine a_ret ?_
      exact ⟨_, [910], _, res_of rfl, rfl, rfl, by rw [stepR_no he he2] <;> rfl, by rw [stepR_no he he2] <;> rfl⟩
    · have he2 : (dec (b.drop at_)).2.2 = 0 := by have h := h35; omega
      refine a_skip ?_
      refine a_seq ?_
      refine a_region ?_
      refine Pstep.go (st_move rfl rfl) ?_
      first | refine Pstep.go (st_nilCheckP rfl rfl) ?_ | refine Pstep.go (st_nilCheckD rfl rfl) ?_ | refine Pstep.go (st_nilCheckR rfl rfl) ?_
      first | refine Pstep.go (st_fieldP rfl fi65_1 rfl rfl rfl) ?_ | refine Pstep.go (st_fieldF1 rfl fi65_1 rfl rfl rfl) ?_ | refine Pstep.go (st_fieldFS rfl fi65_1 rfl rfl rfl) ?_ | refine Pstep.go (st_fieldR rfl fi65_1 rfl rfl rfl) ?_
      first | refine Pstep.go (st_loadD1 rfl rfl on3 rfl) ?_ | refine Pstep.go (st_loadP rfl rfl rfl on3 rfl) ?_ | refine Pstep.go (st_loadR rfl rfl (rfl) rfl on3 rfl) ?_
      refine Pstep.go (st_move rfl rfl) ?_
      refine Pstep.go (st_add rfl rfl (IntWalk.i64_in _ (by omega)) rfl) ?_
      first | refine Pstep.go (st_nilCheckP rfl rfl) ?_ | refine Pstep.go (st_nilCheckD rfl rfl) ?_ | refine Pstep.go (st_nilCheckR rfl rfl) ?_
      first | refine Pstep.go (st_fieldP rfl fi65_1 rfl rfl rfl) ?_ | refine Pstep.go (st_fieldF1 rfl fi65_1 rfl rfl rfl) ?_ | refine Pstep.go (st_fieldFS rfl fi65_1 rfl rfl rfl) ?_ | refine Pstep.go (st_fieldR rfl fi65_1 rfl rfl rfl) ?_
      refine Estep.go (st_storeP rfl rfl rfl rfl rfl rfl rfl sz3) ?_
      refine o_nil ?_
      refine a_seq ?_
      refine a_region ?_
      refine Pstep.go (st_move rfl rfl) ?_
      refine Pstep.go (st_assign rfl rfl) ?_
      refine o_nil ?_
      refine a_ret ?_
      subst he
      exact ⟨_, [910], _, res_of rfl, rfl, rfl, by rw [stepR_ok rfl he2] <;> rfl, by rw [stepR_ok rfl he2] <;> rfl⟩
set_option maxHeartbeats 1000000 in
theorem valueS : ValueC 49 (fun x : List UInt8 => bytesD x) [] := by
  intro g dec b s hs hb hfit hg
  obtain ⟨at_, e⟩ := s
  dsimp only at hs hg ⊢
  have hn := hfit (b.drop at_)
  rw [List.length_drop] at hn
  refine a_enter Try.func49 rfl rfl Try.ntmps49 rfl rfl rfl fun F hF => ?_
  refine a_seq ?_
  refine a_region ?_
  refine Pstep.go (st_assign rfl rfl) ?_
  refine o_nil ?_
  refine a_seq ?_
  refine a_region ?_
  refine Pstep.go (st_assign rfl rfl) ?_
  refine o_anyNil 5 rfl ?_
  refine o_nil ?_
  refine a_seq ?_
  refine a_seq ?_
  refine a_region ?_
  refine Pstep.go (st_move rfl rfl) ?_
  first | refine Pstep.go (st_eql rfl rfl rfl) ?_ | refine Pstep.go (st_eqlSL rfl rfl rfl) ?_ | refine Pstep.go (st_eqlS rfl rfl rfl) ?_ | refine Pstep.go (st_eqlB Try.underlying39 rfl rfl rfl) ?_ | refine Pstep.go (st_eqlP Try.underlying39 rfl rfl rfl) ?_ | refine Pstep.go (st_eqlN Try.underlying39 rfl rfl) ?_ | refine Pstep.go (st_eqlF Try.underlying39 rfl rfl rfl) ?_ | refine Pstep.go (st_eqlFN Try.underlying39 rfl rfl) ?_
  refine Pstep.go (st_move rfl rfl) ?_
  refine o_setF 11 rfl (rfl) ?_
  refine o_run rfl rfl rfl ?_
  refine Pstep.go (st_move rfl rfl) ?_
  refine o_run rfl rfl rfl ?_
  first | refine Pstep.go (st_nilCheckP rfl rfl) ?_ | refine Pstep.go (st_nilCheckD rfl rfl) ?_ | refine Pstep.go (st_nilCheckR rfl rfl) ?_
  refine o_run rfl rfl rfl ?_
  first | refine Pstep.go (st_fieldP rfl fi65_2 rfl rfl rfl) ?_ | refine Pstep.go (st_fieldF1 rfl fi65_2 rfl rfl rfl) ?_ | refine Pstep.go (st_fieldFS rfl fi65_2 rfl rfl rfl) ?_ | refine Pstep.go (st_fieldR rfl fi65_2 rfl rfl rfl) ?_
  refine o_run rfl rfl rfl ?_
  first | refine Pstep.go (st_loadD1 rfl rfl on38 rfl) ?_ | refine Pstep.go (st_loadP rfl rfl rfl on38 rfl) ?_ | refine Pstep.go (st_loadR rfl rfl (rfl) rfl on38 rfl) ?_
  refine o_run rfl rfl rfl ?_
  first | refine Pstep.go (st_neq rfl rfl rfl) ?_ | refine Pstep.go (st_neqSL rfl rfl rfl) ?_ | refine Pstep.go (st_neqS rfl rfl rfl) ?_ | refine Pstep.go (st_neqB Try.underlying38 rfl rfl rfl) ?_ | refine Pstep.go (st_neqP Try.underlying38 rfl rfl rfl) ?_ | refine Pstep.go (st_neqN Try.underlying38 rfl rfl) ?_ | refine Pstep.go (st_neqF Try.underlying38 rfl rfl rfl) ?_ | refine Pstep.go (st_neqFN Try.underlying38 rfl rfl) ?_
  refine Pstep.go (st_pickF rfl rfl rfl rfl) ?_
  refine o_nil ?_
  first | refine a_if rfl (fun h17 => ?_) (fun h17 => ?_) | refine a_cond rfl (fun h17 => ?_) (fun h17 => ?_)
  · have he : ¬ e = 0 := by have h := h17; omega
    refine a_seq ?_
    refine a_region ?_
    refine Pstep.go (st_move rfl rfl) ?_
    refine Pstep.go (st_assign rfl rfl) ?_
    refine o_nil ?_
    refine a_ret ?_
    exact ⟨_, [910], _, res_of rfl, rfl, rfl, by rw [stepR_bad he] <;> rfl, by rw [stepR_bad he] <;> rfl⟩
  · have he : e = 0 := by have h := h17; omega
    refine a_skip ?_
    refine a_seq ?_
    refine a_drawn [[], [], [1], [1, 2], [1, 2, 3], [], [5], [5, 6], [5, 6, 7], [1, 2, 3, 4, 5, 6, 7, 8], [0, 1, 2, 3, 4, 5, 6, 7, 8, 9], [0, 1, 2, 3, 4, 5, 6, 7, 8, 9, 10], [0, 1, 2, 3, 4, 5, 6, 7, 8, 9, 10, 11], [0, 1, 2, 3, 4, 5, 6, 7, 8, 9, 10, 11], [0, 1, 2, 3, 4, 5, 6, 7, 8, 9, 10, 11], [0, 1, 2, 3, 4, 5, 6, 7, 8, 9, 10, 11, 12], [0, 1, 2, 3, 4, 5, 6, 7, 8, 9, 10, 11, 12, 13, 15], [0, 1, 2, 3, 4, 5, 6, 7, 8, 9, 10, 11, 12, 13, 14, 15, 16]] mixed rfl ?_
    refine dws ?_
    first | refine d_pure [1] [] rfl rfl (fun _ => gp_none (st_move rfl rfl)) ?_ | refine d_pureA [1] rfl rfl (fun _ => gp_none (st_move rfl rfl)) ?_
    first | refine d_pure [0] [] rfl rfl (fun _ => gp_none (st_move rfl rfl)) ?_ | refine d_pureA [0] rfl rfl (fun _ => gp_none (st_move rfl rfl)) ?_
    first | refine d_pure [21] [] rfl rfl (fun _ => gp_none (st_nilCheckP rfl rfl)) ?_ | refine d_pureA [21] rfl rfl (fun _ => gp_none (st_nilCheckP rfl rfl)) ?_ | refine d_pure [21] [] rfl rfl (fun _ => gp_none (st_nilCheckD rfl rfl)) ?_ | refine d_pureA [21] rfl rfl (fun _ => gp_none (st_nilCheckD rfl rfl)) ?_ | refine d_pure [21] [] rfl rfl (fun _ => gp_none (st_nilCheckR rfl rfl)) ?_ | refine d_pureA [21] rfl rfl (fun _ => gp_none (st_nilCheckR rfl rfl)) ?_
    first | refine d_pure [22] [] rfl rfl (fun _ => gp_none (st_fieldP rfl fi65_0 rfl rfl rfl)) ?_ | refine d_pureA [22] rfl rfl (fun _ => gp_none (st_fieldP rfl fi65_0 rfl rfl rfl)) ?_ | refine d_pure [22] [] rfl rfl (fun _ => gp_none (st_fieldF1 rfl fi65_0 rfl rfl rfl)) ?_ | refine d_pureA [22] rfl rfl (fun _ => gp_none (st_fieldF1 rfl fi65_0 rfl rfl rfl)) ?_ | refine d_pure [22] [] rfl rfl (fun _ => gp_none (st_fieldFS rfl fi65_0 rfl rfl rfl)) ?_ | refine d_pureA [22] rfl rfl (fun _ => gp_none (st_fieldFS rfl fi65_0 rfl rfl rfl)) ?_ | refine d_pure [22] [] rfl rfl (fun _ => gp_none (st_fieldR rfl fi65_0 rfl rfl rfl)) ?_ | refine d_pureA [22] rfl rfl (fun _ => gp_none (st_fieldR rfl fi65_0 rfl rfl rfl)) ?_
    first | refine d_pure [23] [] rfl rfl (fun _ => gp_none (st_loadD1 rfl rfl on27 rfl)) ?_ | refine d_pureA [23] rfl rfl (fun _ => gp_none (st_loadD1 rfl rfl on27 rfl)) ?_ | refine d_pure [23] [] rfl rfl (fun _ => gp_none (st_loadP rfl rfl rfl on27 rfl)) ?_ | refine d_pureA [23] rfl rfl (fun _ => gp_none (st_loadP rfl rfl rfl on27 rfl)) ?_ | refine d_pure [23] [] rfl rfl (fun _ => gp_none (st_loadR rfl rfl (rfl) rfl on27 rfl)) ?_ | refine d_pureA [23] rfl rfl (fun _ => gp_none (st_loadR rfl rfl (rfl) rfl on27 rfl)) ?_
    first | refine d_pure [0] [] rfl rfl (fun _ => gp_none (st_move rfl rfl)) ?_ | refine d_pureA [0] rfl rfl (fun _ => gp_none (st_move rfl rfl)) ?_
    first | refine d_pure [25] [] rfl rfl (fun _ => gp_none (st_nilCheckP rfl rfl)) ?_ | refine d_pureA [25] rfl rfl (fun _ => gp_none (st_nilCheckP rfl rfl)) ?_ | refine d_pure [25] [] rfl rfl (fun _ => gp_none (st_nilCheckD rfl rfl)) ?_ | refine d_pureA [25] rfl rfl (fun _ => gp_none (st_nilCheckD rfl rfl)) ?_ | refine d_pure [25] [] rfl rfl (fun _ => gp_none (st_nilCheckR rfl rfl)) ?_ | refine d_pureA [25] rfl rfl (fun _ => gp_none (st_nilCheckR rfl rfl)) ?_
    first | refine d_pure [26] [] rfl rfl (fun _ => gp_none (st_fieldP rfl fi65_1 rfl rfl rfl)) ?_ | refine d_pureA [26] rfl rfl (fun _ => gp_none (st_fieldP rfl fi65_1 rfl rfl rfl)) ?_ | refine d_pure [26] [] rfl rfl (fun _ => gp_none (st_fieldF1 rfl fi65_1 rfl rfl rfl)) ?_ | refine d_pureA [26] rfl rfl (fun _ => gp_none (st_fieldF1 rfl fi65_1 rfl rfl rfl)) ?_ | refine d_pure [26] [] rfl rfl (fun _ => gp_none (st_fieldFS rfl fi65_1 rfl rfl rfl)) ?_ | refine d_pureA [26] rfl rfl (fun _ => gp_none (st_fieldFS rfl fi65_1 rfl rfl rfl)) ?_ | refine d_pure [26] [] rfl rfl (fun _ => gp_none (st_fieldR rfl fi65_1 rfl rfl rfl)) ?_ | refine d_pureA [26] rfl rfl (fun _ => gp_none (st_fieldR rfl fi65_1 rfl rfl rfl)) ?_
    first | refine d_pure [27] [] rfl rfl (fun _ => gp_none (st_loadD1 rfl rfl on3 rfl)) ?_ | refine d_pureA [27] rfl rfl (fun _ => gp_none (st_loadD1 rfl rfl on3 rfl)) ?_ | refine d_pure [27] [] rfl rfl (fun _ => gp_none (st_loadP rfl rfl rfl on3 rfl)) ?_ | refine d_pureA [27] rfl rfl (fun _ => gp_none (st_loadP rfl rfl rfl on3 rfl)) ?_ | refine d_pure [27] [] rfl rfl (fun _ => gp_none (st_loadR rfl rfl (rfl) rfl on3 rfl)) ?_ | refine d_pureA [27] rfl rfl (fun _ => gp_none (st_loadR rfl rfl (rfl) rfl on3 rfl)) ?_
    first | refine d_pure [24, 28] [] rfl rfl (fun _ => gp_none (st_sliceLoM (b) (at_) rfl rfl rfl (rfl) (hs) Try.underlying27 sz5 (fun _ => rfl) rfl)) ?_ | refine d_pureA [24, 28] rfl rfl (fun _ => gp_none (st_sliceLoM (b) (at_) rfl rfl rfl (rfl) (hs) Try.underlying27 sz5 (fun _ => rfl) rfl)) ?_
    refine dwc 10 rfl rfl rfl ?_
    refine dw1 11 rfl rfl ?_
    refine Pstep.go (st_callVP hg rfl rfl) ?_
    refine o_nil ⟨rfl, ?_⟩
    refine dw1 12 rfl rfl ?_
    refine Pstep.go (st_move rfl rfl) ?_
    refine o_nil ⟨rfl, ?_⟩
    refine dws ?_
    first | refine d_pure [19] [] rfl rfl (fun _ => gp_none (st_extractD rfl rfl rfl)) ?_ | refine d_pureA [19] rfl rfl (fun _ => gp_none (st_extractD rfl rfl rfl)) ?_ | refine d_pure [19] [] rfl rfl (fun _ => gp_none (st_extract rfl rfl rfl)) ?_ | refine d_pureA [19] rfl rfl (fun _ => gp_none (st_extract rfl rfl rfl)) ?_
    first | refine d_pure [19] [] rfl rfl (fun _ => gp_none (st_extractD rfl rfl rfl)) ?_ | refine d_pureA [19] rfl rfl (fun _ => gp_none (st_extractD rfl rfl rfl)) ?_ | refine d_pure [19] [] rfl rfl (fun _ => gp_none (st_extract rfl rfl rfl)) ?_ | refine d_pureA [19] rfl rfl (fun _ => gp_none (st_extract rfl rfl rfl)) ?_
    first | refine d_pure [19] [] rfl rfl (fun _ => gp_none (st_extractD rfl rfl rfl)) ?_ | refine d_pureA [19] rfl rfl (fun _ => gp_none (st_extractD rfl rfl rfl)) ?_ | refine d_pure [19] [] rfl rfl (fun _ => gp_none (st_extract rfl rfl rfl)) ?_ | refine d_pureA [19] rfl rfl (fun _ => gp_none (st_extract rfl rfl rfl)) ?_
    first | refine d_pure [31] [] rfl rfl (fun _ => gp_none (st_assign rfl rfl)) ?_ | refine d_pureA [31] rfl rfl (fun _ => gp_none (st_assign rfl rfl)) ?_
    first | refine d_pure [32] [] rfl rfl (fun _ => gp_none (st_assign rfl rfl)) ?_ | refine d_pureA [32] rfl rfl (fun _ => gp_none (st_assign rfl rfl)) ?_
    refine dwc 17 rfl rfl rfl ?_
    refine dw1 18 rfl rfl ?_
    refine Pstep.go (st_assign rfl rfl) ?_
    refine o_nil ⟨rfl, ?_⟩
    refine dwe ?_
    refine a_seq ?_
    refine a_seq ?_
    refine a_region ?_
    refine Pstep.go (st_move rfl rfl) ?_
    first | refine Pstep.go (st_neq rfl rfl rfl) ?_ | refine Pstep.go (st_neqSL rfl rfl rfl) ?_ | refine Pstep.go (st_neqS rfl rfl rfl) ?_ | refine Pstep.go (st_neqB Try.underlying38 rfl rfl rfl) ?_ | refine Pstep.go (st_neqP Try.underlying38 rfl rfl rfl) ?_ | refine Pstep.go (st_neqN Try.underlying38 rfl rfl) ?_ | refine Pstep.go (st_neqF Try.underlying38 rfl rfl rfl) ?_ | refine Pstep.go (st_neqFN Try.underlying38 rfl rfl) ?_
    refine o_nil ?_
    first | refine a_if rfl (fun h35 => ?_) (fun h35 => ?_) | refine a_cond rfl (fun h35 => ?_) (fun h35 => ?_)
    · have he2 : ¬ (dec (b.drop at_)).2.2 = 0 := by have h := h35; omega
      refine a_seq ?_
      refine a_region ?_
      refine Pstep.go (st_move rfl rfl) ?_
      refine Pstep.go (st_move rfl rfl) ?_
      first | refine Pstep.go (st_nilCheckP rfl rfl) ?_ | refine Pstep.go (st_nilCheckD rfl rfl) ?_ | refine Pstep.go (st_nilCheckR rfl rfl) ?_
      first | refine Pstep.go (st_fieldP rfl fi65_2 rfl rfl rfl) ?_ | refine Pstep.go (st_fieldF1 rfl fi65_2 rfl rfl rfl) ?_ | refine Pstep.go (st_fieldFS rfl fi65_2 rfl rfl rfl) ?_ | refine Pstep.go (st_fieldR rfl fi65_2 rfl rfl rfl) ?_
      refine Estep.go (st_storeP rfl rfl rfl rfl rfl rfl rfl sz38) ?_
      refine o_nil ?_
      refine a_seq ?_
      refine a_region ?_
      refine Pstep.go (st_move rfl rfl) ?_
      refine Pstep.go (st_assign rfl rfl) ?_
      refine o_nil ?_
      refine a_ret ?_
      exact ⟨_, [910], _, res_of rfl, rfl, rfl, by rw [stepR_no he he2] <;> rfl, by rw [stepR_no he he2] <;> rfl⟩
    · have he2 : (dec (b.drop at_)).2.2 = 0 := by have h := h35; omega
      refine a_skip ?_
      refine a_seq ?_
      refine a_region ?_
      refine Pstep.go (st_move rfl rfl) ?_
      first | refine Pstep.go (st_nilCheckP rfl rfl) ?_ | refine Pstep.go (st_nilCheckD rfl rfl) ?_ | refine Pstep.go (st_nilCheckR rfl rfl) ?_
      first | refine Pstep.go (st_fieldP rfl fi65_1 rfl rfl rfl) ?_ | refine Pstep.go (st_fieldF1 rfl fi65_1 rfl rfl rfl) ?_ | refine Pstep.go (st_fieldFS rfl fi65_1 rfl rfl rfl) ?_ | refine Pstep.go (st_fieldR rfl fi65_1 rfl rfl rfl) ?_
      first | refine Pstep.go (st_loadD1 rfl rfl on3 rfl) ?_ | refine Pstep.go (st_loadP rfl rfl rfl on3 rfl) ?_ | refine Pstep.go (st_loadR rfl rfl (rfl) rfl on3 rfl) ?_
      refine Pstep.go (st_move rfl rfl) ?_
      refine Pstep.go (st_add rfl rfl (IntWalk.i64_in _ (by omega)) rfl) ?_
      first | refine Pstep.go (st_nilCheckP rfl rfl) ?_ | refine Pstep.go (st_nilCheckD rfl rfl) ?_ | refine Pstep.go (st_nilCheckR rfl rfl) ?_
      first | refine Pstep.go (st_fieldP rfl fi65_1 rfl rfl rfl) ?_ | refine Pstep.go (st_fieldF1 rfl fi65_1 rfl rfl rfl) ?_ | refine Pstep.go (st_fieldFS rfl fi65_1 rfl rfl rfl) ?_ | refine Pstep.go (st_fieldR rfl fi65_1 rfl rfl rfl) ?_
      refine Estep.go (st_storeP rfl rfl rfl rfl rfl rfl rfl sz3) ?_
      refine o_nil ?_
      refine a_seq ?_
      refine a_region ?_
      refine Pstep.go (st_move rfl rfl) ?_
      refine Pstep.go (st_assign rfl rfl) ?_
      refine o_nil ?_
      refine a_ret ?_
      subst he
      exact ⟨_, [910], _, res_of rfl, rfl, rfl, by rw [stepR_ok rfl he2] <;> rfl, by rw [stepR_ok rfl he2] <;> rfl⟩
/-- What ReadSlice's function has caught. -/
abbrev capH (mx : Int) (fv : D) : Hp := [(920, [.blk 3 [.d (.raw (.int .i64 mx))]]), (921, [.blk 51 [.d fv]])]
set_option maxHeartbeats 1000000 in
theorem valueUX (mx : Int) (fv : D) (g : FuncId) (dec : List UInt8 → Nat × Nat × Nat) (b : List UInt8) (s : RSt) (hs : s.1 ≤ b.length) (hb : b.length ≤ 1000000000000) (hfit : Fits dec)
    (hg : ACalls Try.prog g [.d (bytesD (b.drop s.1)), .ptr 920 0 0, .ptr 921 0 0] (capH mx fv) fun r H' => r = .d (dec3 (dec (b.drop s.1))) ∧ H' = capH mx fv) :
    ACalls Try.prog 45 [.ptr 910 0 0, .fn g [.ptr 920 0 0, .ptr 921 0 0]] (rH b s.1 s.2 ++ capH mx fv) fun r H' => r = .d (.raw (.int .u64 ((stepR 0 dec b s).1 : Int))) ∧ H' = rH b (stepR 0 dec b s).2.1 (stepR 0 dec b s).2.2 ++ capH mx fv := by
  obtain ⟨at_, e⟩ := s
  dsimp only at hs hg ⊢
  have hn := hfit (b.drop at_)
  rw [List.length_drop] at hn
  refine a_enter Try.func45 rfl rfl Try.ntmps45 rfl rfl rfl fun F hF => ?_
  refine a_seq ?_
  refine a_region ?_
  refine Pstep.go (st_assign rfl rfl) ?_
  refine o_nil ?_
  refine a_seq ?_
  refine a_region ?_
  refine Pstep.go (st_assign rfl rfl) ?_
  refine o_nil ?_
  refine a_seq ?_
  refine a_seq ?_
  refine a_region ?_
  refine Pstep.go (st_move rfl rfl) ?_
  first | refine Pstep.go (st_eql rfl rfl rfl) ?_ | refine Pstep.go (st_eqlSL rfl rfl rfl) ?_ | refine Pstep.go (st_eqlS rfl rfl rfl) ?_ | refine Pstep.go (st_eqlB Try.underlying39 rfl rfl rfl) ?_ | refine Pstep.go (st_eqlP Try.underlying39 rfl rfl rfl) ?_ | refine Pstep.go (st_eqlN Try.underlying39 rfl rfl) ?_ | refine Pstep.go (st_eqlF Try.underlying39 rfl rfl rfl) ?_ | refine Pstep.go (st_eqlFN Try.underlying39 rfl rfl) ?_
  refine Pstep.go (st_move rfl rfl) ?_
  refine o_setF 11 rfl (rfl) ?_
  refine o_run rfl rfl rfl ?_
  refine Pstep.go (st_move rfl rfl) ?_
  refine o_run rfl rfl rfl ?_
  first | refine Pstep.go (st_nilCheckP rfl rfl) ?_ | refine Pstep.go (st_nilCheckD rfl rfl) ?_ | refine Pstep.go (st_nilCheckR rfl rfl) ?_
  refine o_run rfl rfl rfl ?_
  first | refine Pstep.go (st_fieldP rfl fi65_2 rfl rfl rfl) ?_ | refine Pstep.go (st_fieldF1 rfl fi65_2 rfl rfl rfl) ?_ | refine Pstep.go (st_fieldFS rfl fi65_2 rfl rfl rfl) ?_ | refine Pstep.go (st_fieldR rfl fi65_2 rfl rfl rfl) ?_
  refine o_run rfl rfl rfl ?_
  first | refine Pstep.go (st_loadD1 rfl rfl on38 rfl) ?_ | refine Pstep.go (st_loadP rfl rfl rfl on38 rfl) ?_ | refine Pstep.go (st_loadR rfl rfl (rfl) rfl on38 rfl) ?_
  refine o_run rfl rfl rfl ?_
  first | refine Pstep.go (st_neq rfl rfl rfl) ?_ | refine Pstep.go (st_neqSL rfl rfl rfl) ?_ | refine Pstep.go (st_neqS rfl rfl rfl) ?_ | refine Pstep.go (st_neqB Try.underlying38 rfl rfl rfl) ?_ | refine Pstep.go (st_neqP Try.underlying38 rfl rfl rfl) ?_ | refine Pstep.go (st_neqN Try.underlying38 rfl rfl) ?_ | refine Pstep.go (st_neqF Try.underlying38 rfl rfl rfl) ?_ | refine Pstep.go (st_neqFN Try.underlying38 rfl rfl) ?_
  refine Pstep.go (st_pickF rfl rfl rfl rfl) ?_
  refine o_nil ?_
  first | refine a_if rfl (fun h17 => ?_) (fun h17 => ?_) | refine a_cond rfl (fun h17 => ?_) (fun h17 => ?_)
  · have he : ¬ e = 0 := by have h := h17; omega
    refine a_seq ?_
    refine a_region ?_
    refine Pstep.go (st_move rfl rfl) ?_
    refine Pstep.go (st_assign rfl rfl) ?_
    refine o_nil ?_
    refine a_ret ?_
    exact ⟨_, [910, 920, 921], _, res_of rfl, rfl, rfl, by rw [stepR_bad he] <;> rfl, by rw [stepR_bad he] <;> rfl⟩
  · have he : e = 0 := by have h := h17; omega
    refine a_skip ?_
    refine a_seq ?_
    refine a_drawn [[], [], [1], [1, 2], [1, 2, 3], [], [5], [5, 6], [5, 6, 7], [1, 2, 3, 4, 5, 6, 7, 8], [0, 1, 2, 3, 4, 5, 6, 7, 8, 9], [0, 1, 2, 3, 4, 5, 6, 7, 8, 9, 10], [0, 1, 2, 3, 4, 5, 6, 7, 8, 9, 10, 11], [0, 1, 2, 3, 4, 5, 6, 7, 8, 9, 10, 11], [0, 1, 2, 3, 4, 5, 6, 7, 8, 9, 10, 11], [0, 1, 2, 3, 4, 5, 6, 7, 8, 9, 10, 11, 12], [0, 1, 2, 3, 4, 5, 6, 7, 8, 9, 10, 11, 12, 13, 15], [0, 1, 2, 3, 4, 5, 6, 7, 8, 9, 10, 11, 12, 13, 14, 15, 16]] mixed rfl ?_
    refine dws ?_
    first | refine d_pure [1] [] rfl rfl (fun _ => gp_none (st_move rfl rfl)) ?_ | refine d_pureA [1] rfl rfl (fun _ => gp_none (st_move rfl rfl)) ?_
    first | refine d_pure [0] [] rfl rfl (fun _ => gp_none (st_move rfl rfl)) ?_ | refine d_pureA [0] rfl rfl (fun _ => gp_none (st_move rfl rfl)) ?_
    first | refine d_pure [21] [] rfl rfl (fun _ => gp_none (st_nilCheckP rfl rfl)) ?_ | refine d_pureA [21] rfl rfl (fun _ => gp_none (st_nilCheckP rfl rfl)) ?_ | refine d_pure [21] [] rfl rfl (fun _ => gp_none (st_nilCheckD rfl rfl)) ?_ | refine d_pureA [21] rfl rfl (fun _ => gp_none (st_nilCheckD rfl rfl)) ?_ | refine d_pure [21] [] rfl rfl (fun _ => gp_none (st_nilCheckR rfl rfl)) ?_ | refine d_pureA [21] rfl rfl (fun _ => gp_none (st_nilCheckR rfl rfl)) ?_
    first | refine d_pure [22] [] rfl rfl (fun _ => gp_none (st_fieldP rfl fi65_0 rfl rfl rfl)) ?_ | refine d_pureA [22] rfl rfl (fun _ => gp_none (st_fieldP rfl fi65_0 rfl rfl rfl)) ?_ | refine d_pure [22] [] rfl rfl (fun _ => gp_none (st_fieldF1 rfl fi65_0 rfl rfl rfl)) ?_ | refine d_pureA [22] rfl rfl (fun _ => gp_none (st_fieldF1 rfl fi65_0 rfl rfl rfl)) ?_ | refine d_pure [22] [] rfl rfl (fun _ => gp_none (st_fieldFS rfl fi65_0 rfl rfl rfl)) ?_ | refine d_pureA [22] rfl rfl (fun _ => gp_none (st_fieldFS rfl fi65_0 rfl rfl rfl)) ?_ | refine d_pure [22] [] rfl rfl (fun _ => gp_none (st_fieldR rfl fi65_0 rfl rfl rfl)) ?_ | refine d_pureA [22] rfl rfl (fun _ => gp_none (st_fieldR rfl fi65_0 rfl rfl rfl)) ?_
    first | refine d_pure [23] [] rfl rfl (fun _ => gp_none (st_loadD1 rfl rfl on27 rfl)) ?_ | refine d_pureA [23] rfl rfl (fun _ => gp_none (st_loadD1 rfl rfl on27 rfl)) ?_ | refine d_pure [23] [] rfl rfl (fun _ => gp_none (st_loadP rfl rfl rfl on27 rfl)) ?_ | refine d_pureA [23] rfl rfl (fun _ => gp_none (st_loadP rfl rfl rfl on27 rfl)) ?_ | refine d_pure [23] [] rfl rfl (fun _ => gp_none (st_loadR rfl rfl (rfl) rfl on27 rfl)) ?_ | refine d_pureA [23] rfl rfl (fun _ => gp_none (st_loadR rfl rfl (rfl) rfl on27 rfl)) ?_
    first | refine d_pure [0] [] rfl rfl (fun _ => gp_none (st_move rfl rfl)) ?_ | refine d_pureA [0] rfl rfl (fun _ => gp_none (st_move rfl rfl)) ?_
    first | refine d_pure [25] [] rfl rfl (fun _ => gp_none (st_nilCheckP rfl rfl)) ?_ | refine d_pureA [25] rfl rfl (fun _ => gp_none (st_nilCheckP rfl rfl)) ?_ | refine d_pure [25] [] rfl rfl (fun _ => gp_none (st_nilCheckD rfl rfl)) ?_ | refine d_pureA [25] rfl rfl (fun _ => gp_none (st_nilCheckD rfl rfl)) ?_ | refine d_pure [25] [] rfl rfl (fun _ => gp_none (st_nilCheckR rfl rfl)) ?_ | refine d_pureA [25] rfl rfl (fun _ => gp_none (st_nilCheckR rfl rfl)) ?_
    first | refine d_pure [26] [] rfl rfl (fun _ => gp_none (st_fieldP rfl fi65_1 rfl rfl rfl)) ?_ | refine d_pureA [26] rfl rfl (fun _ => gp_none (st_fieldP rfl fi65_1 rfl rfl rfl)) ?_ | refine d_pure [26] [] rfl rfl (fun _ => gp_none (st_fieldF1 rfl fi65_1 rfl rfl rfl)) ?_ | refine d_pureA [26] rfl rfl (fun _ => gp_none (st_fieldF1 rfl fi65_1 rfl rfl rfl)) ?_ | refine d_pure [26] [] rfl rfl (fun _ => gp_none (st_fieldFS rfl fi65_1 rfl rfl rfl)) ?_ | refine d_pureA [26] rfl rfl (fun _ => gp_none (st_fieldFS rfl fi65_1 rfl rfl rfl)) ?_ | refine d_pure [26] [] rfl rfl (fun _ => gp_none (st_fieldR rfl fi65_1 rfl rfl rfl)) ?_ | refine d_pureA [26] rfl rfl (fun _ => gp_none (st_fieldR rfl fi65_1 rfl rfl rfl)) ?_
    first | refine d_pure [27] [] rfl rfl (fun _ => gp_none (st_loadD1 rfl rfl on3 rfl)) ?_ | refine d_pureA [27] rfl rfl (fun _ => gp_none (st_loadD1 rfl rfl on3 rfl)) ?_ | refine d_pure [27] [] rfl rfl (fun _ => gp_none (st_loadP rfl rfl rfl on3 rfl)) ?_ | refine d_pureA [27] rfl rfl (fun _ => gp_none (st_loadP rfl rfl rfl on3 rfl)) ?_ | refine d_pure [27] [] rfl rfl (fun _ => gp_none (st_loadR rfl rfl (rfl) rfl on3 rfl)) ?_ | refine d_pureA [27] rfl rfl (fun _ => gp_none (st_loadR rfl rfl (rfl) rfl on3 rfl)) ?_
    first | refine d_pure [24, 28] [] rfl rfl (fun _ => gp_none (st_sliceLoM (b) (at_) rfl rfl rfl (rfl) (hs) Try.underlying27 sz5 (fun _ => rfl) rfl)) ?_ | refine d_pureA [24, 28] rfl rfl (fun _ => gp_none (st_sliceLoM (b) (at_) rfl rfl rfl (rfl) (hs) Try.underlying27 sz5 (fun _ => rfl) rfl)) ?_
    refine dwc 10 rfl rfl rfl ?_
    refine dw1 11 rfl rfl ?_
    refine Estep.go (st_callVD hg rfl [920, 921] ⟨rfl, rfl, trivial⟩ rfl rfl rfl rfl rfl rfl rfl rfl rfl) ?_
    refine o_nil ⟨rfl, ?_⟩
    refine dw1 12 rfl rfl ?_
    refine Pstep.go (st_move rfl rfl) ?_
    refine o_nil ⟨rfl, ?_⟩
    refine dws ?_
    first | refine d_pure [19] [] rfl rfl (fun _ => gp_none (st_extractD rfl rfl rfl)) ?_ | refine d_pureA [19] rfl rfl (fun _ => gp_none (st_extractD rfl rfl rfl)) ?_ | refine d_pure [19] [] rfl rfl (fun _ => gp_none (st_extract rfl rfl rfl)) ?_ | refine d_pureA [19] rfl rfl (fun _ => gp_none (st_extract rfl rfl rfl)) ?_
    first | refine d_pure [19] [] rfl rfl (fun _ => gp_none (st_extractD rfl rfl rfl)) ?_ | refine d_pureA [19] rfl rfl (fun _ => gp_none (st_extractD rfl rfl rfl)) ?_ | refine d_pure [19] [] rfl rfl (fun _ => gp_none (st_extract rfl rfl rfl)) ?_ | refine d_pureA [19] rfl rfl (fun _ => gp_none (st_extract rfl rfl rfl)) ?_
    first | refine d_pure [19] [] rfl rfl (fun _ => gp_none (st_extractD rfl rfl rfl)) ?_ | refine d_pureA [19] rfl rfl (fun _ => gp_none (st_extractD rfl rfl rfl)) ?_ | refine d_pure [19] [] rfl rfl (fun _ => gp_none (st_extract rfl rfl rfl)) ?_ | refine d_pureA [19] rfl rfl (fun _ => gp_none (st_extract rfl rfl rfl)) ?_
    first | refine d_pure [31] [] rfl rfl (fun _ => gp_none (st_assign rfl rfl)) ?_ | refine d_pureA [31] rfl rfl (fun _ => gp_none (st_assign rfl rfl)) ?_
    first | refine d_pure [32] [] rfl rfl (fun _ => gp_none (st_assign rfl rfl)) ?_ | refine d_pureA [32] rfl rfl (fun _ => gp_none (st_assign rfl rfl)) ?_
    refine dwc 17 rfl rfl rfl ?_
    refine dw1 18 rfl rfl ?_
    refine Pstep.go (st_assign rfl rfl) ?_
    refine o_nil ⟨rfl, ?_⟩
    refine dwe ?_
    refine a_seq ?_
    refine a_seq ?_
    refine a_region ?_
    refine Pstep.go (st_move rfl rfl) ?_
    first | refine Pstep.go (st_neq rfl rfl rfl) ?_ | refine Pstep.go (st_neqSL rfl rfl rfl) ?_ | refine Pstep.go (st_neqS rfl rfl rfl) ?_ | refine Pstep.go (st_neqB Try.underlying38 rfl rfl rfl) ?_ | refine Pstep.go (st_neqP Try.underlying38 rfl rfl rfl) ?_ | refine Pstep.go (st_neqN Try.underlying38 rfl rfl) ?_ | refine Pstep.go (st_neqF Try.underlying38 rfl rfl rfl) ?_ | refine Pstep.go (st_neqFN Try.underlying38 rfl rfl) ?_
    refine o_nil ?_
    first | refine a_if rfl (fun h35 => ?_) (fun h35 => ?_) | refine a_cond rfl (fun h35 => ?_) (fun h35 => ?_)
    · have he2 : ¬ (dec (b.drop at_)).2.2 = 0 := by have h := h35; omega
      refine a_seq ?_
      refine a_region ?_
      refine Pstep.go (st_move rfl rfl) ?_
      refine Pstep.go (st_move rfl rfl) ?_
      first | refine Pstep.go (st_nilCheckP rfl rfl) ?_ | refine Pstep.go (st_nilCheckD rfl rfl) ?_ | refine Pstep.go (st_nilCheckR rfl rfl) ?_
      first | refine Pstep.go (st_fieldP rfl fi65_2 rfl rfl rfl) ?_ | refine Pstep.go (st_fieldF1 rfl fi65_2 rfl rfl rfl) ?_ | refine Pstep.go (st_fieldFS rfl fi65_2 rfl rfl rfl) ?_ | refine Pstep.go (st_fieldR rfl fi65_2 rfl rfl rfl) ?_
      refine Estep.go (st_storeP rfl rfl rfl rfl rfl rfl rfl sz38) ?_
      refine o_nil ?_
      refine a_seq ?_
      refine a_region ?_
      refine Pstep.go (st_move rfl rfl) ?_
      refine Pstep.go (st_assign rfl rfl) ?_
      refine o_nil ?_
      refine a_ret ?_
      exact ⟨_, [910, 920, 921], _, res_of rfl, rfl, rfl, by rw [stepR_no he he2] <;> rfl, by rw [stepR_no he he2] <;> rfl⟩
    · have he2 : (dec (b.drop at_)).2.2 = 0 := by have h := h35; omega
      refine a_skip ?_
      refine a_seq ?_
      refine a_region ?_
      refine Pstep.go (st_move rfl rfl) ?_
      first | refine Pstep.go (st_nilCheckP rfl rfl) ?_ | refine Pstep.go (st_nilCheckD rfl rfl) ?_ | refine Pstep.go (st_nilCheckR rfl rfl) ?_
      first | refine Pstep.go (st_fieldP rfl fi65_1 rfl rfl rfl) ?_ | refine Pstep.go (st_fieldF1 rfl fi65_1 rfl rfl rfl) ?_ | refine Pstep.go (st_fieldFS rfl fi65_1 rfl rfl rfl) ?_ | refine Pstep.go (st_fieldR rfl fi65_1 rfl rfl rfl) ?_
      first | refine Pstep.go (st_loadD1 rfl rfl on3 rfl) ?_ | refine Pstep.go (st_loadP rfl rfl rfl on3 rfl) ?_ | refine Pstep.go (st_loadR rfl rfl (rfl) rfl on3 rfl) ?_
      refine Pstep.go (st_move rfl rfl) ?_
      refine Pstep.go (st_add rfl rfl (IntWalk.i64_in _ (by omega)) rfl) ?_
      first | refine Pstep.go (st_nilCheckP rfl rfl) ?_ | refine Pstep.go (st_nilCheckD rfl rfl) ?_ | refine Pstep.go (st_nilCheckR rfl rfl) ?_
      first | refine Pstep.go (st_fieldP rfl fi65_1 rfl rfl rfl) ?_ | refine Pstep.go (st_fieldF1 rfl fi65_1 rfl rfl rfl) ?_ | refine Pstep.go (st_fieldFS rfl fi65_1 rfl rfl rfl) ?_ | refine Pstep.go (st_fieldR rfl fi65_1 rfl rfl rfl) ?_
      refine Estep.go (st_storeP rfl rfl rfl rfl rfl rfl rfl sz3) ?_
      refine o_nil ?_
      refine a_seq ?_
      refine a_region ?_
      refine Pstep.go (st_move rfl rfl) ?_
      refine Pstep.go (st_assign rfl rfl) ?_
      refine o_nil ?_
      refine a_ret ?_
      subst he
      exact ⟨_, [910, 920, 921], _, res_of rfl, rfl, rfl, by rw [stepR_ok rfl he2] <;> rfl, by rw [stepR_ok rfl he2] <;> rfl⟩
end Go.Proofs.Ytjbghmlofjkcfaa
