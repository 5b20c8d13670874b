/- The walk of the reference's Same. -/
import Derived.Test.YtjbghmlofjkcfaaCodPl
namespace Go.Proofs.Ytjbghmlofjkcfaa
open Go.RowKit

def sameB (a b : CV) : Bool := decide (a.k = b.k ∧ a.u = b.u ∧ a.i = b.i ∧ a.b = b.b ∧ a.s = b.s ∧ a.l = b.l)
theorem sameB_self (a : CV) : sameB a a = true := by simp [sameB]
theorem sameB_iff {a b : CV} : sameB a b = true ↔ a = b := by
  constructor
  · intro h
    have := of_decide_eq_true h
    cases a; cases b
    simp_all
  · rintro rfl; exact sameB_self a
theorem takeEq {α : Type} {a b : List α} {k : Nat} (ha : k < a.length) (hb : k < b.length) (h : a.take k = b.take k) (he : a[k] = b[k]) : a.take (k + 1) = b.take (k + 1) := by
  rw [List.take_succ_eq_append_getElem ha, List.take_succ_eq_append_getElem hb, h, he]
set_option maxHeartbeats 2000000 in
theorem same_p (a b : CV) (ha : a.l.length ≤ 140737488351232) : PCalls Try.prog 34 [.d (vD a), .d (vD b)] (.raw (.bool (sameB a b))) := by
  refine a_enter Try.func34 rfl rfl Try.ntmps34 rfl rfl rfl fun F hF => ?_
  refine a_seq ?_
  refine a_region ?_
  refine Estep.go (st_box 1 rfl rfl rfl rfl rfl rfl rfl) ?_
  refine Estep.go (st_box 2 rfl rfl rfl rfl rfl rfl rfl) ?_
  refine Pstep.go (st_assign rfl rfl) ?_
  refine o_nil ?_
  refine a_seq ?_
  refine a_seq ?_
  refine a_region ?_
  first | refine Pstep.go (st_fieldP rfl fi32_0 rfl rfl rfl) ?_ | refine Pstep.go (st_fieldF1 rfl fi32_0 rfl rfl rfl) ?_ | refine Pstep.go (st_fieldFS rfl fi32_0 rfl rfl rfl) ?_ | refine Pstep.go (st_fieldR rfl fi32_0 rfl rfl rfl) ?_
  first | refine Pstep.go (st_loadD1 rfl rfl on3 rfl) ?_ | refine Pstep.go (st_loadP rfl rfl rfl on3 rfl) ?_ | refine Pstep.go (st_loadR rfl rfl (rfl) rfl on3 rfl) ?_
  first | refine Pstep.go (st_fieldP rfl fi32_0 rfl rfl rfl) ?_ | refine Pstep.go (st_fieldF1 rfl fi32_0 rfl rfl rfl) ?_ | refine Pstep.go (st_fieldFS rfl fi32_0 rfl rfl rfl) ?_ | refine Pstep.go (st_fieldR rfl fi32_0 rfl rfl rfl) ?_
  first | refine Pstep.go (st_loadD1 rfl rfl on3 rfl) ?_ | refine Pstep.go (st_loadP rfl rfl rfl on3 rfl) ?_ | refine Pstep.go (st_loadR rfl rfl (rfl) rfl on3 rfl) ?_
  first | refine Pstep.go (st_neq rfl rfl rfl) ?_ | refine Pstep.go (st_neqSL rfl rfl rfl) ?_ | refine Pstep.go (st_neqS rfl rfl rfl) ?_ | refine Pstep.go (st_neqB Try.underlying3 rfl rfl rfl) ?_ | refine Pstep.go (st_neqP Try.underlying3 rfl rfl rfl) ?_ | refine Pstep.go (st_neqN Try.underlying3 rfl rfl) ?_ | refine Pstep.go (st_neqF Try.underlying3 rfl rfl rfl) ?_ | refine Pstep.go (st_neqFN Try.underlying3 rfl rfl) ?_
  refine Pstep.go (st_move rfl rfl) ?_
  first | refine o_splitP 11 rfl (fun h11 => ?_) (fun h11 => ?_) | refine o_splitB 11 rfl (fun h11 => ?_) (fun h11 => ?_)
  · refine o_pass rfl rfl rfl rfl ?_
    refine o_pass rfl rfl rfl rfl ?_
    refine o_pass rfl rfl rfl rfl ?_
    refine o_pass rfl rfl rfl rfl ?_
    refine o_pass rfl rfl rfl rfl ?_
    refine Pstep.go (st_pickT rfl rfl rfl rfl) ?_
    refine Pstep.go (st_move rfl rfl) ?_
    refine o_pass rfl rfl rfl rfl ?_
    refine o_pass rfl rfl rfl rfl ?_
    refine o_pass rfl rfl rfl rfl ?_
    refine o_pass rfl rfl rfl rfl ?_
    refine o_pass rfl rfl rfl rfl ?_
    refine Pstep.go (st_pickT rfl rfl rfl rfl) ?_
    refine Pstep.go (st_move rfl rfl) ?_
    refine o_pass rfl rfl rfl rfl ?_
    refine o_pass rfl rfl rfl rfl ?_
    refine o_pass rfl rfl rfl rfl ?_
    refine o_pass rfl rfl rfl rfl ?_
    refine o_pass rfl rfl rfl rfl ?_
    refine Pstep.go (st_pickT rfl rfl rfl rfl) ?_
    refine Pstep.go (st_move rfl rfl) ?_
    refine o_pass rfl rfl rfl rfl ?_
    refine o_pass rfl rfl rfl rfl ?_
    refine o_pass rfl rfl rfl rfl ?_
    refine o_pass rfl rfl rfl rfl ?_
    refine o_pass rfl rfl rfl rfl ?_
    refine Pstep.go (st_pickT rfl rfl rfl rfl) ?_
    refine Pstep.go (st_move rfl rfl) ?_
    refine o_pass rfl rfl rfl rfl ?_
    refine o_pass rfl rfl rfl rfl ?_
    refine o_pass rfl rfl rfl rfl ?_
    refine o_pass rfl rfl rfl rfl ?_
    refine o_pass rfl rfl rfl rfl ?_
    refine o_pass rfl rfl rfl rfl ?_
    refine o_pass rfl rfl rfl rfl ?_
    refine Pstep.go (st_pickT rfl rfl rfl rfl) ?_
    refine o_nil ?_
    refine a_true rfl rfl ?_
    refine a_seq ?_
    refine a_region ?_
    refine Pstep.go (st_assign rfl rfl) ?_
    refine o_nil ?_
    refine a_ret ?_
    have hf : sameB a b = false := by
      unfold sameB; apply decide_eq_false; rintro ⟨e1, e2, e3, e4, e5, e6⟩
      first | exact h11 e1 | exact h18 (congrArg (fun n : Nat => (n : Int)) e2) | exact h25 e3 | exact h32 e4 | exact h39 e5 | exact h47 (congrArg (fun l : List (List UInt8) => ((l.length : Nat) : Int)) e6)
    exact ⟨_, [], [], res_of rfl, rfl, rfl, by rw [hf], rfl⟩
  · refine o_run rfl rfl rfl ?_
    first | refine Pstep.go (st_fieldP rfl fi32_1 rfl rfl rfl) ?_ | refine Pstep.go (st_fieldF1 rfl fi32_1 rfl rfl rfl) ?_ | refine Pstep.go (st_fieldFS rfl fi32_1 rfl rfl rfl) ?_ | refine Pstep.go (st_fieldR rfl fi32_1 rfl rfl rfl) ?_
    refine o_run rfl rfl rfl ?_
    first | refine Pstep.go (st_loadD1 rfl rfl on29 rfl) ?_ | refine Pstep.go (st_loadP rfl rfl rfl on29 rfl) ?_ | refine Pstep.go (st_loadR rfl rfl (rfl) rfl on29 rfl) ?_
    refine o_run rfl rfl rfl ?_
    first | refine Pstep.go (st_fieldP rfl fi32_1 rfl rfl rfl) ?_ | refine Pstep.go (st_fieldF1 rfl fi32_1 rfl rfl rfl) ?_ | refine Pstep.go (st_fieldFS rfl fi32_1 rfl rfl rfl) ?_ | refine Pstep.go (st_fieldR rfl fi32_1 rfl rfl rfl) ?_
    refine o_run rfl rfl rfl ?_
    first | refine Pstep.go (st_loadD1 rfl rfl on29 rfl) ?_ | refine Pstep.go (st_loadP rfl rfl rfl on29 rfl) ?_ | refine Pstep.go (st_loadR rfl rfl (rfl) rfl on29 rfl) ?_
    refine o_run rfl rfl rfl ?_
    first | refine Pstep.go (st_neq rfl rfl rfl) ?_ | refine Pstep.go (st_neqSL rfl rfl rfl) ?_ | refine Pstep.go (st_neqS rfl rfl rfl) ?_ | refine Pstep.go (st_neqB Try.underlying29 rfl rfl rfl) ?_ | refine Pstep.go (st_neqP Try.underlying29 rfl rfl rfl) ?_ | refine Pstep.go (st_neqN Try.underlying29 rfl rfl) ?_ | refine Pstep.go (st_neqF Try.underlying29 rfl rfl rfl) ?_ | refine Pstep.go (st_neqFN Try.underlying29 rfl rfl) ?_
    refine Pstep.go (st_pickF rfl rfl rfl rfl) ?_
    refine Pstep.go (st_move rfl rfl) ?_
    first | refine o_splitP 18 rfl (fun h18 => ?_) (fun h18 => ?_) | refine o_splitB 18 rfl (fun h18 => ?_) (fun h18 => ?_)
    · refine o_pass rfl rfl rfl rfl ?_
      refine o_pass rfl rfl rfl rfl ?_
      refine o_pass rfl rfl rfl rfl ?_
      refine o_pass rfl rfl rfl rfl ?_
      refine o_pass rfl rfl rfl rfl ?_
      refine Pstep.go (st_pickT rfl rfl rfl rfl) ?_
      refine Pstep.go (st_move rfl rfl) ?_
      refine o_pass rfl rfl rfl rfl ?_
      refine o_pass rfl rfl rfl rfl ?_
      refine o_pass rfl rfl rfl rfl ?_
      refine o_pass rfl rfl rfl rfl ?_
      refine o_pass rfl rfl rfl rfl ?_
      refine Pstep.go (st_pickT rfl rfl rfl rfl) ?_
      refine Pstep.go (st_move rfl rfl) ?_
      refine o_pass rfl rfl rfl rfl ?_
      refine o_pass rfl rfl rfl rfl ?_
      refine o_pass rfl rfl rfl rfl ?_
      refine o_pass rfl rfl rfl rfl ?_
      refine o_pass rfl rfl rfl rfl ?_
      refine Pstep.go (st_pickT rfl rfl rfl rfl) ?_
      refine Pstep.go (st_move rfl rfl) ?_
      refine o_pass rfl rfl rfl rfl ?_
      refine o_pass rfl rfl rfl rfl ?_
      refine o_pass rfl rfl rfl rfl ?_
      refine o_pass rfl rfl rfl rfl ?_
      refine o_pass rfl rfl rfl rfl ?_
      refine o_pass rfl rfl rfl rfl ?_
      refine o_pass rfl rfl rfl rfl ?_
      refine Pstep.go (st_pickT rfl rfl rfl rfl) ?_
      refine o_nil ?_
      refine a_true rfl rfl ?_
      refine a_seq ?_
      refine a_region ?_
      refine Pstep.go (st_assign rfl rfl) ?_
      refine o_nil ?_
      refine a_ret ?_
      have hf : sameB a b = false := by
        unfold sameB; apply decide_eq_false; rintro ⟨e1, e2, e3, e4, e5, e6⟩
        first | exact h11 e1 | exact h18 (congrArg (fun n : Nat => (n : Int)) e2) | exact h25 e3 | exact h32 e4 | exact h39 e5 | exact h47 (congrArg (fun l : List (List UInt8) => ((l.length : Nat) : Int)) e6)
      exact ⟨_, [], [], res_of rfl, rfl, rfl, by rw [hf], rfl⟩
    · refine o_run rfl rfl rfl ?_
      first | refine Pstep.go (st_fieldP rfl fi32_2 rfl rfl rfl) ?_ | refine Pstep.go (st_fieldF1 rfl fi32_2 rfl rfl rfl) ?_ | refine Pstep.go (st_fieldFS rfl fi32_2 rfl rfl rfl) ?_ | refine Pstep.go (st_fieldR rfl fi32_2 rfl rfl rfl) ?_
      refine o_run rfl rfl rfl ?_
      first | refine Pstep.go (st_loadD1 rfl rfl on2 rfl) ?_ | refine Pstep.go (st_loadP rfl rfl rfl on2 rfl) ?_ | refine Pstep.go (st_loadR rfl rfl (rfl) rfl on2 rfl) ?_
      refine o_run rfl rfl rfl ?_
      first | refine Pstep.go (st_fieldP rfl fi32_2 rfl rfl rfl) ?_ | refine Pstep.go (st_fieldF1 rfl fi32_2 rfl rfl rfl) ?_ | refine Pstep.go (st_fieldFS rfl fi32_2 rfl rfl rfl) ?_ | refine Pstep.go (st_fieldR rfl fi32_2 rfl rfl rfl) ?_
      refine o_run rfl rfl rfl ?_
      first | refine Pstep.go (st_loadD1 rfl rfl on2 rfl) ?_ | refine Pstep.go (st_loadP rfl rfl rfl on2 rfl) ?_ | refine Pstep.go (st_loadR rfl rfl (rfl) rfl on2 rfl) ?_
      refine o_run rfl rfl rfl ?_
      first | refine Pstep.go (st_neq rfl rfl rfl) ?_ | refine Pstep.go (st_neqSL rfl rfl rfl) ?_ | refine Pstep.go (st_neqS rfl rfl rfl) ?_ | refine Pstep.go (st_neqB Try.underlying2 rfl rfl rfl) ?_ | refine Pstep.go (st_neqP Try.underlying2 rfl rfl rfl) ?_ | refine Pstep.go (st_neqN Try.underlying2 rfl rfl) ?_ | refine Pstep.go (st_neqF Try.underlying2 rfl rfl rfl) ?_ | refine Pstep.go (st_neqFN Try.underlying2 rfl rfl) ?_
      refine Pstep.go (st_pickF rfl rfl rfl rfl) ?_
      refine Pstep.go (st_move rfl rfl) ?_
      first | refine o_splitP 25 rfl (fun h25 => ?_) (fun h25 => ?_) | refine o_splitB 25 rfl (fun h25 => ?_) (fun h25 => ?_)
      · refine o_pass rfl rfl rfl rfl ?_
        refine o_pass rfl rfl rfl rfl ?_
        refine o_pass rfl rfl rfl rfl ?_
        refine o_pass rfl rfl rfl rfl ?_
        refine o_pass rfl rfl rfl rfl ?_
        refine Pstep.go (st_pickT rfl rfl rfl rfl) ?_
        refine Pstep.go (st_move rfl rfl) ?_
        refine o_pass rfl rfl rfl rfl ?_
        refine o_pass rfl rfl rfl rfl ?_
        refine o_pass rfl rfl rfl rfl ?_
        refine o_pass rfl rfl rfl rfl ?_
        refine o_pass rfl rfl rfl rfl ?_
        refine Pstep.go (st_pickT rfl rfl rfl rfl) ?_
        refine Pstep.go (st_move rfl rfl) ?_
        refine o_pass rfl rfl rfl rfl ?_
        refine o_pass rfl rfl rfl rfl ?_
        refine o_pass rfl rfl rfl rfl ?_
        refine o_pass rfl rfl rfl rfl ?_
        refine o_pass rfl rfl rfl rfl ?_
        refine o_pass rfl rfl rfl rfl ?_
        refine o_pass rfl rfl rfl rfl ?_
        refine Pstep.go (st_pickT rfl rfl rfl rfl) ?_
        refine o_nil ?_
        refine a_true rfl rfl ?_
        refine a_seq ?_
        refine a_region ?_
        refine Pstep.go (st_assign rfl rfl) ?_
        refine o_nil ?_
        refine a_ret ?_
        have hf : sameB a b = false := by
          unfold sameB; apply decide_eq_false; rintro ⟨e1, e2, e3, e4, e5, e6⟩
          first | exact h11 e1 | exact h18 (congrArg (fun n : Nat => (n : Int)) e2) | exact h25 e3 | exact h32 e4 | exact h39 e5 | exact h47 (congrArg (fun l : List (List UInt8) => ((l.length : Nat) : Int)) e6)
        exact ⟨_, [], [], res_of rfl, rfl, rfl, by rw [hf], rfl⟩
      · refine o_run rfl rfl rfl ?_
        first | refine Pstep.go (st_fieldP rfl fi32_3 rfl rfl rfl) ?_ | refine Pstep.go (st_fieldF1 rfl fi32_3 rfl rfl rfl) ?_ | refine Pstep.go (st_fieldFS rfl fi32_3 rfl rfl rfl) ?_ | refine Pstep.go (st_fieldR rfl fi32_3 rfl rfl rfl) ?_
        refine o_run rfl rfl rfl ?_
        first | refine Pstep.go (st_loadD1 rfl rfl on4 rfl) ?_ | refine Pstep.go (st_loadP rfl rfl rfl on4 rfl) ?_ | refine Pstep.go (st_loadR rfl rfl (rfl) rfl on4 rfl) ?_
        refine o_run rfl rfl rfl ?_
        first | refine Pstep.go (st_fieldP rfl fi32_3 rfl rfl rfl) ?_ | refine Pstep.go (st_fieldF1 rfl fi32_3 rfl rfl rfl) ?_ | refine Pstep.go (st_fieldFS rfl fi32_3 rfl rfl rfl) ?_ | refine Pstep.go (st_fieldR rfl fi32_3 rfl rfl rfl) ?_
        refine o_run rfl rfl rfl ?_
        first | refine Pstep.go (st_loadD1 rfl rfl on4 rfl) ?_ | refine Pstep.go (st_loadP rfl rfl rfl on4 rfl) ?_ | refine Pstep.go (st_loadR rfl rfl (rfl) rfl on4 rfl) ?_
        refine o_run rfl rfl rfl ?_
        first | refine Pstep.go (st_neq rfl rfl rfl) ?_ | refine Pstep.go (st_neqSL rfl rfl rfl) ?_ | refine Pstep.go (st_neqS rfl rfl rfl) ?_ | refine Pstep.go (st_neqB Try.underlying4 rfl rfl rfl) ?_ | refine Pstep.go (st_neqP Try.underlying4 rfl rfl rfl) ?_ | refine Pstep.go (st_neqN Try.underlying4 rfl rfl) ?_ | refine Pstep.go (st_neqF Try.underlying4 rfl rfl rfl) ?_ | refine Pstep.go (st_neqFN Try.underlying4 rfl rfl) ?_
        refine Pstep.go (st_pickF rfl rfl rfl rfl) ?_
        refine Pstep.go (st_move rfl rfl) ?_
        first | refine o_splitP 32 rfl (fun h32 => ?_) (fun h32 => ?_) | refine o_splitB 32 rfl (fun h32 => ?_) (fun h32 => ?_)
        · refine o_pass rfl rfl rfl rfl ?_
          refine o_pass rfl rfl rfl rfl ?_
          refine o_pass rfl rfl rfl rfl ?_
          refine o_pass rfl rfl rfl rfl ?_
          refine o_pass rfl rfl rfl rfl ?_
          refine Pstep.go (st_pickT rfl rfl rfl rfl) ?_
          refine Pstep.go (st_move rfl rfl) ?_
          refine o_pass rfl rfl rfl rfl ?_
          refine o_pass rfl rfl rfl rfl ?_
          refine o_pass rfl rfl rfl rfl ?_
          refine o_pass rfl rfl rfl rfl ?_
          refine o_pass rfl rfl rfl rfl ?_
          refine o_pass rfl rfl rfl rfl ?_
          refine o_pass rfl rfl rfl rfl ?_
          refine Pstep.go (st_pickT rfl rfl rfl rfl) ?_
          refine o_nil ?_
          refine a_true rfl rfl ?_
          refine a_seq ?_
          refine a_region ?_
          refine Pstep.go (st_assign rfl rfl) ?_
          refine o_nil ?_
          refine a_ret ?_
          have hf : sameB a b = false := by
            unfold sameB; apply decide_eq_false; rintro ⟨e1, e2, e3, e4, e5, e6⟩
            first | exact h11 e1 | exact h18 (congrArg (fun n : Nat => (n : Int)) e2) | exact h25 e3 | exact h32 e4 | exact h39 e5 | exact h47 (congrArg (fun l : List (List UInt8) => ((l.length : Nat) : Int)) e6)
          exact ⟨_, [], [], res_of rfl, rfl, rfl, by rw [hf], rfl⟩
        · refine o_run rfl rfl rfl ?_
          first | refine Pstep.go (st_fieldP rfl fi32_4 rfl rfl rfl) ?_ | refine Pstep.go (st_fieldF1 rfl fi32_4 rfl rfl rfl) ?_ | refine Pstep.go (st_fieldFS rfl fi32_4 rfl rfl rfl) ?_ | refine Pstep.go (st_fieldR rfl fi32_4 rfl rfl rfl) ?_
          refine o_run rfl rfl rfl ?_
          first | refine Pstep.go (st_loadD1 rfl rfl on9 rfl) ?_ | refine Pstep.go (st_loadP rfl rfl rfl on9 rfl) ?_ | refine Pstep.go (st_loadR rfl rfl (rfl) rfl on9 rfl) ?_
          refine o_run rfl rfl rfl ?_
          first | refine Pstep.go (st_fieldP rfl fi32_4 rfl rfl rfl) ?_ | refine Pstep.go (st_fieldF1 rfl fi32_4 rfl rfl rfl) ?_ | refine Pstep.go (st_fieldFS rfl fi32_4 rfl rfl rfl) ?_ | refine Pstep.go (st_fieldR rfl fi32_4 rfl rfl rfl) ?_
          refine o_run rfl rfl rfl ?_
          first | refine Pstep.go (st_loadD1 rfl rfl on9 rfl) ?_ | refine Pstep.go (st_loadP rfl rfl rfl on9 rfl) ?_ | refine Pstep.go (st_loadR rfl rfl (rfl) rfl on9 rfl) ?_
          refine o_run rfl rfl rfl ?_
          first | refine Pstep.go (st_neq rfl rfl rfl) ?_ | refine Pstep.go (st_neqSL rfl rfl rfl) ?_ | refine Pstep.go (st_neqS rfl rfl rfl) ?_ | refine Pstep.go (st_neqB Try.underlying9 rfl rfl rfl) ?_ | refine Pstep.go (st_neqP Try.underlying9 rfl rfl rfl) ?_ | refine Pstep.go (st_neqN Try.underlying9 rfl rfl) ?_ | refine Pstep.go (st_neqF Try.underlying9 rfl rfl rfl) ?_ | refine Pstep.go (st_neqFN Try.underlying9 rfl rfl) ?_
          refine Pstep.go (st_pickF rfl rfl rfl rfl) ?_
          refine Pstep.go (st_move rfl rfl) ?_
          first | refine o_splitP 39 rfl (fun h39 => ?_) (fun h39 => ?_) | refine o_splitB 39 rfl (fun h39 => ?_) (fun h39 => ?_)
          · refine o_pass rfl rfl rfl rfl ?_
            refine o_pass rfl rfl rfl rfl ?_
            refine o_pass rfl rfl rfl rfl ?_
            refine o_pass rfl rfl rfl rfl ?_
            refine o_pass rfl rfl rfl rfl ?_
            refine o_pass rfl rfl rfl rfl ?_
            refine o_pass rfl rfl rfl rfl ?_
            refine Pstep.go (st_pickT rfl rfl rfl rfl) ?_
            refine o_nil ?_
            refine a_true rfl rfl ?_
            refine a_seq ?_
            refine a_region ?_
            refine Pstep.go (st_assign rfl rfl) ?_
            refine o_nil ?_
            refine a_ret ?_
            have hf : sameB a b = false := by
              unfold sameB; apply decide_eq_false; rintro ⟨e1, e2, e3, e4, e5, e6⟩
              first | exact h11 e1 | exact h18 (congrArg (fun n : Nat => (n : Int)) e2) | exact h25 e3 | exact h32 e4 | exact h39 e5 | exact h47 (congrArg (fun l : List (List UInt8) => ((l.length : Nat) : Int)) e6)
            exact ⟨_, [], [], res_of rfl, rfl, rfl, by rw [hf], rfl⟩
          · refine o_run rfl rfl rfl ?_
            first | refine Pstep.go (st_fieldP rfl fi32_5 rfl rfl rfl) ?_ | refine Pstep.go (st_fieldF1 rfl fi32_5 rfl rfl rfl) ?_ | refine Pstep.go (st_fieldFS rfl fi32_5 rfl rfl rfl) ?_ | refine Pstep.go (st_fieldR rfl fi32_5 rfl rfl rfl) ?_
            refine o_run rfl rfl rfl ?_
            first | refine Pstep.go (st_loadD1 rfl rfl on30 rfl) ?_ | refine Pstep.go (st_loadP rfl rfl rfl on30 rfl) ?_ | refine Pstep.go (st_loadR rfl rfl (rfl) rfl on30 rfl) ?_
            refine o_run rfl rfl rfl ?_
            first | refine Pstep.go (st_lenMap rfl Try.underlying30 rfl) ?_ | refine Pstep.go (st_lenD rfl rfl Try.underlying30 rfl) ?_ | refine Pstep.go (st_lenO rfl Try.underlying30 rfl) ?_ | refine Pstep.go (st_lenSL rfl Try.underlying30 rfl) ?_ | refine Pstep.go (st_lenS rfl Try.underlying30 rfl) ?_
            refine o_run rfl rfl rfl ?_
            first | refine Pstep.go (st_fieldP rfl fi32_5 rfl rfl rfl) ?_ | refine Pstep.go (st_fieldF1 rfl fi32_5 rfl rfl rfl) ?_ | refine Pstep.go (st_fieldFS rfl fi32_5 rfl rfl rfl) ?_ | refine Pstep.go (st_fieldR rfl fi32_5 rfl rfl rfl) ?_
            refine o_run rfl rfl rfl ?_
            first | refine Pstep.go (st_loadD1 rfl rfl on30 rfl) ?_ | refine Pstep.go (st_loadP rfl rfl rfl on30 rfl) ?_ | refine Pstep.go (st_loadR rfl rfl (rfl) rfl on30 rfl) ?_
            refine o_run rfl rfl rfl ?_
            first | refine Pstep.go (st_lenMap rfl Try.underlying30 rfl) ?_ | refine Pstep.go (st_lenD rfl rfl Try.underlying30 rfl) ?_ | refine Pstep.go (st_lenO rfl Try.underlying30 rfl) ?_ | refine Pstep.go (st_lenSL rfl Try.underlying30 rfl) ?_ | refine Pstep.go (st_lenS rfl Try.underlying30 rfl) ?_
            refine o_run rfl rfl rfl ?_
            first | refine Pstep.go (st_neq rfl rfl rfl) ?_ | refine Pstep.go (st_neqSL rfl rfl rfl) ?_ | refine Pstep.go (st_neqS rfl rfl rfl) ?_ | refine Pstep.go (st_neqB Try.underlying3 rfl rfl rfl) ?_ | refine Pstep.go (st_neqP Try.underlying3 rfl rfl rfl) ?_ | refine Pstep.go (st_neqN Try.underlying3 rfl rfl) ?_ | refine Pstep.go (st_neqF Try.underlying3 rfl rfl rfl) ?_ | refine Pstep.go (st_neqFN Try.underlying3 rfl rfl) ?_
            refine Pstep.go (st_pickF rfl rfl rfl rfl) ?_
            refine o_nil ?_
            first | refine a_if rfl (fun h47 => ?_) (fun h47 => ?_) | refine a_cond rfl (fun h47 => ?_) (fun h47 => ?_)
            · refine a_seq ?_
              refine a_region ?_
              refine Pstep.go (st_assign rfl rfl) ?_
              refine o_nil ?_
              refine a_ret ?_
              have hf : sameB a b = false := by
                unfold sameB; apply decide_eq_false; rintro ⟨e1, e2, e3, e4, e5, e6⟩
                first | exact h11 e1 | exact h18 (congrArg (fun n : Nat => (n : Int)) e2) | exact h25 e3 | exact h32 e4 | exact h39 e5 | exact h47 (congrArg (fun l : List (List UInt8) => ((l.length : Nat) : Int)) e6)
              exact ⟨_, [], [], res_of rfl, rfl, rfl, by rw [hf], rfl⟩
            · refine a_skip ?_
              refine a_seq ?_
              refine a_seq ?_
              have hlen : a.l.length = b.l.length := by have h := h47; omega
              refine a_region ?_
              refine Pstep.go (st_assign rfl rfl) ?_
              refine o_nil ?_
              refine a_block ?_
              refine a_loopP (α := Nat) (fun k => ⟨66, [(2, .ptr 1 0 0), (3, .ptr 2 0 0), (5, (.d (.raw (.int .i64 (k : Int)))))], [(1, [.blk 32 [.d (.raw (.int .i64 a.k)), .d (.raw (.int .u64 (a.u : Int))), .d (.raw (.int .i64 a.i)), .d (.raw (.bool a.b)), .d (strD a.s), .d (strsD a.l)]]), (2, [.blk 32 [.d (.raw (.int .i64 b.k)), .d (.raw (.int .u64 (b.u : Int))), .d (.raw (.int .i64 b.i)), .d (.raw (.bool b.b)), .d (strD b.s), .d (strsD b.l)]])]⟩) (fun k => k ≤ a.l.length ∧ a.l.take k = b.l.take k) (fun k => a.l.length - k) (0) (⟨Nat.zero_le _, by simp⟩) (lep_of hF [1, 2] rfl rfl ⟨rfl, rfl, rfl, trivial⟩) ?_
              intro k hI
              obtain ⟨hk0, ht⟩ := hI
              refine a_seq ?_
              refine a_seq ?_
              refine a_region ?_
              refine Pstep.go (st_move rfl rfl) ?_
              first | refine Pstep.go (st_fieldP rfl fi32_5 rfl rfl rfl) ?_ | refine Pstep.go (st_fieldF1 rfl fi32_5 rfl rfl rfl) ?_ | refine Pstep.go (st_fieldFS rfl fi32_5 rfl rfl rfl) ?_ | refine Pstep.go (st_fieldR rfl fi32_5 rfl rfl rfl) ?_
              first | refine Pstep.go (st_loadD1 rfl rfl on30 rfl) ?_ | refine Pstep.go (st_loadP rfl rfl rfl on30 rfl) ?_ | refine Pstep.go (st_loadR rfl rfl (rfl) rfl on30 rfl) ?_
              first | refine Pstep.go (st_lenMap rfl Try.underlying30 rfl) ?_ | refine Pstep.go (st_lenD rfl rfl Try.underlying30 rfl) ?_ | refine Pstep.go (st_lenO rfl Try.underlying30 rfl) ?_ | refine Pstep.go (st_lenSL rfl Try.underlying30 rfl) ?_ | refine Pstep.go (st_lenS rfl Try.underlying30 rfl) ?_
              first | refine Pstep.go (st_lss rfl rfl rfl) ?_ | refine Pstep.go (st_lssS rfl rfl rfl) ?_
              refine o_nil ?_
              first | refine a_if rfl (fun h52 => ?_) (fun h52 => ?_) | refine a_cond rfl (fun h52 => ?_) (fun h52 => ?_)
              · refine a_skip ?_
                refine a_seq ?_
                refine a_block ?_
                refine a_seq ?_
                refine a_drawn [[], [0], [], [0, 1, 2], [0, 1, 2, 3], [], [5], [], [5, 6, 7], [5, 6, 7, 8], [0, 1, 2, 3, 4, 5, 6, 7, 8, 9]] mixed rfl ?_
                refine dws ?_
                have hk : k < a.l.length := lt_cast h52
                have hk2 : k < b.l.length := by omega
                first | refine d_pure [2] [] rfl rfl (fun _ => gp_none (st_fieldP rfl fi32_5 rfl rfl rfl)) ?_ | refine d_pureA [2] rfl rfl (fun _ => gp_none (st_fieldP rfl fi32_5 rfl rfl rfl)) ?_ | refine d_pure [2] [] rfl rfl (fun _ => gp_none (st_fieldF1 rfl fi32_5 rfl rfl rfl)) ?_ | refine d_pureA [2] rfl rfl (fun _ => gp_none (st_fieldF1 rfl fi32_5 rfl rfl rfl)) ?_ | refine d_pure [2] [] rfl rfl (fun _ => gp_none (st_fieldFS rfl fi32_5 rfl rfl rfl)) ?_ | refine d_pureA [2] rfl rfl (fun _ => gp_none (st_fieldFS rfl fi32_5 rfl rfl rfl)) ?_ | refine d_pure [2] [] rfl rfl (fun _ => gp_none (st_fieldR rfl fi32_5 rfl rfl rfl)) ?_ | refine d_pureA [2] rfl rfl (fun _ => gp_none (st_fieldR rfl fi32_5 rfl rfl rfl)) ?_
                first | refine d_pure [55] [] rfl rfl (fun _ => gp_none (st_loadD1 rfl rfl on30 rfl)) ?_ | refine d_pureA [55] rfl rfl (fun _ => gp_none (st_loadD1 rfl rfl on30 rfl)) ?_ | refine d_pure [55] [] rfl rfl (fun _ => gp_none (st_loadP rfl rfl rfl on30 rfl)) ?_ | refine d_pureA [55] rfl rfl (fun _ => gp_none (st_loadP rfl rfl rfl on30 rfl)) ?_ | refine d_pure [55] [] rfl rfl (fun _ => gp_none (st_loadR rfl rfl (rfl) rfl on30 rfl)) ?_ | refine d_pureA [55] rfl rfl (fun _ => gp_none (st_loadR rfl rfl (rfl) rfl on30 rfl)) ?_
                first | refine d_pure [5] [] rfl rfl (fun _ => gp_none (st_move rfl rfl)) ?_ | refine d_pureA [5] rfl rfl (fun _ => gp_none (st_move rfl rfl)) ?_
                first | refine d_pure [56, 57] [] rfl rfl (fun _ => gp_none (st_indexD (k) rfl rfl (rfl) (getm hk) Try.underlying30 rfl sz9 rfl)) ?_ | refine d_pureA [56, 57] rfl rfl (fun _ => gp_none (st_indexD (k) rfl rfl (rfl) (getm hk) Try.underlying30 rfl sz9 rfl)) ?_ | refine d_pure [56, 57] [] rfl rfl (fun _ => gp_none (st_indexO (k) rfl rfl (rfl) (getm hk) rfl Try.underlying30 sz9 rfl)) ?_ | refine d_pureA [56, 57] rfl rfl (fun _ => gp_none (st_indexO (k) rfl rfl (rfl) (getm hk) rfl Try.underlying30 sz9 rfl)) ?_
                first | refine d_pure [58] [] rfl rfl (fun _ => gp_none (st_loadD1 rfl rfl on9 rfl)) ?_ | refine d_pureA [58] rfl rfl (fun _ => gp_none (st_loadD1 rfl rfl on9 rfl)) ?_ | refine d_pure [58] [] rfl rfl (fun _ => gp_none (st_loadP rfl rfl rfl on9 rfl)) ?_ | refine d_pureA [58] rfl rfl (fun _ => gp_none (st_loadP rfl rfl rfl on9 rfl)) ?_ | refine d_pure [58] [] rfl rfl (fun _ => gp_none (st_loadR rfl rfl (rfl) rfl on9 rfl)) ?_ | refine d_pureA [58] rfl rfl (fun _ => gp_none (st_loadR rfl rfl (rfl) rfl on9 rfl)) ?_
                first | refine d_pure [3] [] rfl rfl (fun _ => gp_none (st_fieldP rfl fi32_5 rfl rfl rfl)) ?_ | refine d_pureA [3] rfl rfl (fun _ => gp_none (st_fieldP rfl fi32_5 rfl rfl rfl)) ?_ | refine d_pure [3] [] rfl rfl (fun _ => gp_none (st_fieldF1 rfl fi32_5 rfl rfl rfl)) ?_ | refine d_pureA [3] rfl rfl (fun _ => gp_none (st_fieldF1 rfl fi32_5 rfl rfl rfl)) ?_ | refine d_pure [3] [] rfl rfl (fun _ => gp_none (st_fieldFS rfl fi32_5 rfl rfl rfl)) ?_ | refine d_pureA [3] rfl rfl (fun _ => gp_none (st_fieldFS rfl fi32_5 rfl rfl rfl)) ?_ | refine d_pure [3] [] rfl rfl (fun _ => gp_none (st_fieldR rfl fi32_5 rfl rfl rfl)) ?_ | refine d_pureA [3] rfl rfl (fun _ => gp_none (st_fieldR rfl fi32_5 rfl rfl rfl)) ?_
                first | refine d_pure [60] [] rfl rfl (fun _ => gp_none (st_loadD1 rfl rfl on30 rfl)) ?_ | refine d_pureA [60] rfl rfl (fun _ => gp_none (st_loadD1 rfl rfl on30 rfl)) ?_ | refine d_pure [60] [] rfl rfl (fun _ => gp_none (st_loadP rfl rfl rfl on30 rfl)) ?_ | refine d_pureA [60] rfl rfl (fun _ => gp_none (st_loadP rfl rfl rfl on30 rfl)) ?_ | refine d_pure [60] [] rfl rfl (fun _ => gp_none (st_loadR rfl rfl (rfl) rfl on30 rfl)) ?_ | refine d_pureA [60] rfl rfl (fun _ => gp_none (st_loadR rfl rfl (rfl) rfl on30 rfl)) ?_
                first | refine d_pure [5] [] rfl rfl (fun _ => gp_none (st_move rfl rfl)) ?_ | refine d_pureA [5] rfl rfl (fun _ => gp_none (st_move rfl rfl)) ?_
                first | refine d_pure [61, 62] [] rfl rfl (fun _ => gp_none (st_indexD (k) rfl rfl (rfl) (getm hk2) Try.underlying30 rfl sz9 rfl)) ?_ | refine d_pureA [61, 62] rfl rfl (fun _ => gp_none (st_indexD (k) rfl rfl (rfl) (getm hk2) Try.underlying30 rfl sz9 rfl)) ?_ | refine d_pure [61, 62] [] rfl rfl (fun _ => gp_none (st_indexO (k) rfl rfl (rfl) (getm hk2) rfl Try.underlying30 sz9 rfl)) ?_ | refine d_pureA [61, 62] rfl rfl (fun _ => gp_none (st_indexO (k) rfl rfl (rfl) (getm hk2) rfl Try.underlying30 sz9 rfl)) ?_
                first | refine d_pure [63] [] rfl rfl (fun _ => gp_none (st_loadD1 rfl rfl on9 rfl)) ?_ | refine d_pureA [63] rfl rfl (fun _ => gp_none (st_loadD1 rfl rfl on9 rfl)) ?_ | refine d_pure [63] [] rfl rfl (fun _ => gp_none (st_loadP rfl rfl rfl on9 rfl)) ?_ | refine d_pureA [63] rfl rfl (fun _ => gp_none (st_loadP rfl rfl rfl on9 rfl)) ?_ | refine d_pure [63] [] rfl rfl (fun _ => gp_none (st_loadR rfl rfl (rfl) rfl on9 rfl)) ?_ | refine d_pureA [63] rfl rfl (fun _ => gp_none (st_loadR rfl rfl (rfl) rfl on9 rfl)) ?_
                refine dwc 10 rfl rfl rfl ?_
                refine dw1 11 rfl rfl ?_
                first | refine Pstep.go (st_neq rfl rfl rfl) ?_ | refine Pstep.go (st_neqSL rfl rfl rfl) ?_ | refine Pstep.go (st_neqS rfl rfl rfl) ?_ | refine Pstep.go (st_neqB Try.underlying9 rfl rfl rfl) ?_ | refine Pstep.go (st_neqP Try.underlying9 rfl rfl rfl) ?_ | refine Pstep.go (st_neqN Try.underlying9 rfl rfl) ?_ | refine Pstep.go (st_neqF Try.underlying9 rfl rfl rfl) ?_ | refine Pstep.go (st_neqFN Try.underlying9 rfl rfl) ?_
                refine o_nil ⟨rfl, ?_⟩
                refine dwe ?_
                first | refine a_if rfl (fun h65 => ?_) (fun h65 => ?_) | refine a_cond rfl (fun h65 => ?_) (fun h65 => ?_)
                · refine a_seq ?_
                  refine a_region ?_
                  refine Pstep.go (st_assign rfl rfl) ?_
                  refine o_nil ?_
                  refine a_ret ?_
                  have hf : sameB a b = false := by
                    unfold sameB; apply decide_eq_false; rintro ⟨e1, e2, e3, e4, e5, e6⟩
                    have := congrArg (·[k]?) e6
                    exact h65 (by simpa [List.getElem?_eq_getElem hk, List.getElem?_eq_getElem hk2] using this)
                  exact ⟨_, [], [], res_of rfl, rfl, rfl, by rw [hf], rfl⟩
                · refine a_skip ?_
                  refine a_region ?_
                  refine Pstep.go (st_move rfl rfl) ?_
                  refine Pstep.go (st_add rfl rfl (IntWalk.i64_in _ (by omega)) rfl) ?_
                  refine Pstep.go (st_assign rfl rfl) ?_
                  refine o_nil ?_
                  exact ⟨k + 1, ⟨by omega, takeEq hk hk2 ht (by have h := h65; exact Classical.byContradiction h)⟩, by omega, lep_of hF [1, 2] rfl (rfl) ⟨rfl, rfl, rfl, trivial⟩⟩
              · refine a_exit ?_
                refine a_seq ?_
                refine a_region ?_
                refine Pstep.go (st_assign rfl rfl) ?_
                refine o_nil ?_
                refine a_ret ?_
                have hf : sameB a b = true := by
                  have h := h52
                  have e : a.l = b.l := by rw [List.take_of_length_le (by omega), List.take_of_length_le (by omega)] at ht; exact ht
                  have g1 := Classical.byContradiction h11; have g2 := Classical.byContradiction h18; have g3 := Classical.byContradiction h25; have g4 := Classical.byContradiction h32; have g5 := Classical.byContradiction h39
                  unfold sameB; exact decide_eq_true ⟨g1, by omega, g3, g4, g5, e⟩
                exact ⟨_, [], [], res_of rfl, rfl, rfl, by rw [hf], rfl⟩
end Go.Proofs.Ytjbghmlofjkcfaa
