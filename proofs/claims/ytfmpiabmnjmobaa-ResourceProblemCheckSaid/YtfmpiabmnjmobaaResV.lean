/- Layer 28: a problem's check. -/
import Derived.Test.YtfmpiabmnjmobaaResU
namespace Go.Proofs.Ytfmpiabmnjmobaa
open Go.RowKit

theorem retB3 {a b : Bool} (h : a = b) : AV.d (.raw (.bool a)) = .d (.raw (.bool b)) := by rw [h]
theorem fidx_at {α : Type} {p : α → Bool} : ∀ {l : List α} {k : Nat} (hk : k < l.length), (∀ x ∈ l.take k, p x = false) → p l[k] = true → l.findIdx? p = some k
  | a :: l, 0, _, _, h => by simp at h; simp [List.findIdx?_cons, h]
  | a :: l, k + 1, hk, h0, h => by
    have h1 : p a = false := h0 a (by simp)
    have := fidx_at (l := l) (k := k) (by simpa using hk) (fun x hx => h0 x (by simp [hx])) (by simpa using h)
    simp [List.findIdx?_cons, h1, this]
theorem fidx_no {α : Type} {p : α → Bool} {l : List α} (h : ∀ x ∈ l, p x = false) : l.findIdx? p = none := by
  rw [List.findIdx?_eq_none_iff]; exact h
def ixF (p : Int → Bool) (l : List Int) : Int := match l.findIdx? p with
  | some k => k
  | none => -1
theorem ixF_nn {p : Int → Bool} {l : List Int} : 0 ≤ ixF p l ↔ l.any p = true := by
  unfold ixF
  cases h : l.findIdx? p with
  | none =>
    rw [List.findIdx?_eq_none_iff] at h
    simp only [List.any_eq_true]
    constructor
    · intro h'; omega
    · rintro ⟨x, hx, hp⟩; rw [h x hx] at hp; cases hp
  | some k =>
    have := List.findIdx?_isSome (xs := l) (p := p)
    rw [h] at this
    simp only [Option.isSome_some] at this
    simp [← this]
abbrev HM (S : List Int) : Hp := [(910, [.blk 125 [.map 911 0]]), (911, [mapC intD boolD (setM S)])]
def notIn (S : List Int) (x : Int) : Bool := !decide (x ∈ S)
set_option maxRecDepth 100000 in
theorem chk1_c (S : List Int) (x : Int) : ACalls Try.prog 73 [.d (intD x), .ptr 910 0 0] (HM S) fun r H' => r = .d (boolD (notIn S x)) ∧ H' = HM S := by
  refine a_enter Try.func73 rfl rfl Try.ntmps73 rfl rfl rfl fun F hF => ?_
  refine a_seq ?_
  refine a_region ?_
  refine Pstep.go (st_assign rfl rfl) ?_
  refine o_nil ?_
  refine a_seq ?_
  refine a_region ?_
  first | refine Pstep.go (st_loadD1 rfl rfl on125 rfl) ?_ | refine Pstep.go (st_loadP rfl rfl rfl on125 rfl) ?_ | refine Pstep.go (st_loadR rfl rfl (rfl) rfl on125 rfl) ?_
  refine Pstep.go (st_move rfl rfl) ?_
  refine Pstep.go (st_look (setM S) (x) (false) _ rfl rfl rfl mt125 kt3 za4 rfl rfl) ?_
  rw [setM_get]
  first | refine Pstep.go (st_notP rfl rfl) ?_ | refine Pstep.go (st_not rfl rfl) ?_
  refine Pstep.go (st_assign rfl rfl) ?_
  refine o_nil ?_
  refine a_ret ?_
  exact ⟨_, [910, 911], _, res_of rfl, rfl, rfl, by first | exact retB3 (by unfold notIn; simp) | rfl, rfl⟩
set_option maxRecDepth 100000 in
theorem indexF_c (S l : List Int) (hl : l.length ≤ 100000000) : ACalls Try.prog 95 [.d (.sl none (l.map intD)), .fn 73 [.ptr 910 0 0]] (HM S) fun r H' => r = .d (intD (ixF (notIn S) l)) ∧ H' = HM S := by
  refine a_enter Try.func95 rfl rfl Try.ntmps95 rfl rfl rfl fun F hF => ?_
  refine a_seq ?_
  refine a_region ?_
  refine Pstep.go (st_assign rfl rfl) ?_
  refine o_nil ?_
  refine a_seq ?_
  refine a_seq ?_
  refine a_region ?_
  refine Pstep.go (st_move rfl rfl) ?_
  first | refine Pstep.go (st_lenMap rfl Try.underlying24 rfl) ?_ | refine Pstep.go (st_lenD rfl rfl Try.underlying24 rfl) ?_ | refine Pstep.go (st_lenO rfl Try.underlying24 rfl) ?_ | refine Pstep.go (st_lenSL rfl Try.underlying24 rfl) ?_ | refine Pstep.go (st_lenS rfl Try.underlying24 rfl) ?_
  refine Pstep.go (st_move rfl rfl) ?_
  refine o_nil ?_
  refine a_block ?_
  refine a_loopP (α := Nat) (fun k => ⟨19, [(0, .d (.sl none (l.map intD))), (1, .fn 73 [.ptr 910 0 0]), (7, (.d (intD (l.length : Int)))), (8, (.d (intD (k : Int))))], HM S⟩) (fun k => k ≤ l.length ∧ ∀ x ∈ l.take k, notIn S x = false) (fun k => l.length - k) (0) (⟨Nat.zero_le _, by simp⟩) (lep_of hF [910, 911] rfl rfl ⟨rfl, rfl, rfl, rfl, trivial⟩) ?_
  rintro k ⟨hk0, hk⟩
  refine a_seq ?_
  refine a_region ?_
  first | refine Pstep.go (st_lss rfl rfl rfl) ?_ | refine Pstep.go (st_lssS rfl rfl rfl) ?_
  refine o_nil ?_
  refine a_seq ?_
  first | refine a_if rfl (fun h9 => ?_) (fun h9 => ?_) | refine a_cond rfl (fun h9 => ?_) (fun h9 => ?_)
  · have hk1 : k < l.length := lt_cast h9
    refine a_skip ?_
    refine a_seq ?_
    refine a_block ?_
    refine a_seq ?_
    refine a_region ?_
    refine Pstep.go (st_move rfl rfl) ?_
    refine Pstep.go (st_assign rfl rfl) ?_
    refine o_nil ?_
    refine a_seq ?_
    refine a_region ?_
    refine Pstep.go (st_move rfl rfl) ?_
    refine Pstep.go (st_move rfl rfl) ?_
    refine Pstep.go (st_move rfl rfl) ?_
    first | refine Pstep.go (st_indexD (k) rfl rfl (rfl) (getm hk1) Try.underlying24 rfl sz3 rfl) ?_ | refine Pstep.go (st_indexO (k) rfl rfl (rfl) (getm hk1) rfl Try.underlying24 sz3 rfl) ?_
    first | refine Pstep.go (st_loadD1 rfl rfl on3 rfl) ?_ | refine Pstep.go (st_loadP rfl rfl rfl on3 rfl) ?_ | refine Pstep.go (st_loadR rfl rfl (rfl) rfl on3 rfl) ?_
    refine Estep.go (st_callVD (chk1_c S l[k]) rfl [910, 911] ⟨rfl, rfl, trivial⟩ rfl rfl rfl rfl rfl rfl rfl rfl rfl) ?_
    refine o_nil ?_
    first | refine a_if rfl (fun h16 => ?_) (fun h16 => ?_) | refine a_cond rfl (fun h16 => ?_) (fun h16 => ?_)
    · refine a_seq ?_
      refine a_region ?_
      refine Pstep.go (st_move rfl rfl) ?_
      refine Pstep.go (st_assign rfl rfl) ?_
      refine o_nil ?_
      refine a_ret ?_
      exact ⟨_, [910, 911], _, res_of rfl, rfl, rfl, retI (by unfold ixF; rw [fidx_at hk1 hk (by simpa using h16)]), rfl⟩
    · refine a_skip ?_
      refine a_region ?_
      refine Pstep.go (st_add rfl rfl (wrapS (k + 1) (by omega)) rfl) ?_
      refine Pstep.go (st_move rfl rfl) ?_
      refine o_nil ?_
      exact ⟨k + 1, ⟨by show k + 1 ≤ _; omega, by rw [List.take_succ_eq_append_getElem hk1]; intro x hx; rcases List.mem_append.1 hx with hx | hx; exact hk x hx; rw [List.mem_singleton.1 hx]; simpa using h16⟩, by show l.length - (k + 1) < l.length - k; omega, lep_of hF [910, 911] rfl (rfl) ⟨rfl, rfl, rfl, rfl, trivial⟩⟩
  · refine a_exit ?_
    refine a_seq ?_
    refine a_region ?_
    refine Pstep.go (st_assign rfl rfl) ?_
    refine o_nil ?_
    refine a_ret ?_
    exact ⟨_, [910, 911], _, res_of rfl, rfl, rfl, retI (by unfold ixF; rw [fidx_no (fun x hx => hk x (by rw [List.take_of_length_le (by have h := h9; omega)]; exact hx))]), rfl⟩
set_option maxRecDepth 100000 in
theorem containsF_c (S l : List Int) (hl : l.length ≤ 100000000) : ACalls Try.prog 72 [.d (.sl none (l.map intD)), .fn 73 [.ptr 910 0 0]] (HM S) fun r H' => r = .d (boolD (l.any (notIn S))) ∧ H' = HM S := by
  refine a_enter Try.func72 rfl rfl Try.ntmps72 rfl rfl rfl fun F hF => ?_
  refine a_seq ?_
  refine a_region ?_
  refine Pstep.go (st_assign rfl rfl) ?_
  refine o_nil ?_
  refine a_seq ?_
  refine a_region ?_
  refine Pstep.go (st_move rfl rfl) ?_
  refine Pstep.go (st_move rfl rfl) ?_
  refine Estep.go (st_callD (indexF_c S l hl) rfl [910, 911] ⟨rfl, rfl, trivial⟩ rfl rfl rfl rfl rfl rfl rfl rfl rfl) ?_
  refine Pstep.go (st_geq rfl rfl rfl) ?_
  refine Pstep.go (st_assign rfl rfl) ?_
  refine o_nil ?_
  refine a_ret ?_
  exact ⟨_, [910, 911], _, res_of rfl, rfl, rfl, retB3 (by rw [Bool.eq_iff_iff, decide_eq_true_eq]; exact ixF_nn), rfl⟩
def itm0 : Itm := ⟨0, 0, 0, [], [], []⟩
def iErr (l : List Itm) (k : Nat) : Int := if checkE (l.getD k itm0) ≠ 0 then checkE (l.getD k itm0) else if (l.getD k itm0).id ∈ (l.take k).map Itm.id ∨ (l.getD k itm0).sq ∈ (l.take k).map Itm.sq then 7 else 0
def itemsE (l : List Itm) : Int := fst0 ((List.range l.length).map (iErr l))
def fErr (S : List Int) (i : Itm) : Int := if i.af.any (notIn S) = true then 9 else 0
def afterE (l : List Itm) : Int := fst0 (l.map (fErr (l.map Itm.id)))
def prbE (p : Prb) : Int := if 4096 < p.it.length ∨ 16384 < p.ro.length then 8 else fst0 [roomsE p.ro, itemsE p.it, afterE p.it]
theorem prbE_r {p : Prb} (h : ¬ (4096 < p.it.length ∨ 16384 < p.ro.length)) (h2 : roomsE p.ro ≠ 0) : roomsE p.ro = prbE p := by unfold prbE; rw [if_neg h]; simp only [fst0]; rw [if_neg h2]
theorem prbE_i {p : Prb} (h : ¬ (4096 < p.it.length ∨ 16384 < p.ro.length)) (h1 : roomsE p.ro = 0) {e : Int} (h2 : e = itemsE p.it) (h3 : e ≠ 0) : e = prbE p := by unfold prbE; rw [if_neg h]; simp only [fst0]; rw [if_pos h1, if_neg (by rw [← h2]; exact h3), h2]
theorem prbE_a {p : Prb} (h : ¬ (4096 < p.it.length ∨ 16384 < p.ro.length)) (h1 : roomsE p.ro = 0) (h2 : itemsE p.it = 0) {e : Int} (h3 : e = afterE p.it) : e = prbE p := by unfold prbE; rw [if_neg h]; simp only [fst0]; rw [if_pos h1, if_pos h2, h3]; split <;> simp_all
def PrbB (p : Prb) : Prop := p.ro.length ≤ 100000 ∧ p.it.length ≤ 100000 ∧ ∀ i ∈ p.it, i.po.length ≤ 100000 ∧ i.pa.length ≤ 100000 ∧ i.af.length ≤ 100000
set_option maxRecDepth 100000 in
theorem pcheck_p (p : Prb) (hb : PrbB p) : PCalls Try.prog 29 [.d (prbD p)] (intD (prbE p)) := by
  obtain ⟨g1, g2, g3⟩ := hb
  refine a_enter Try.func29 rfl rfl Try.ntmps29 rfl rfl rfl fun F hF => ?_
  refine a_seq ?_
  refine a_region ?_
  refine Estep.go (st_box 1 rfl rfl rfl rfl rfl rfl rfl) ?_
  refine Pstep.go (st_assign rfl rfl) ?_
  refine o_nil ?_
  refine a_seq ?_
  refine a_seq ?_
  refine a_region ?_
  first | refine Pstep.go (st_fieldP rfl fi72_1 rfl rfl rfl) ?_ | refine Pstep.go (st_fieldF1 rfl fi72_1 rfl rfl rfl) ?_ | refine Pstep.go (st_fieldFS rfl fi72_1 rfl rfl rfl) ?_ | refine Pstep.go (st_fieldR rfl fi72_1 rfl rfl rfl) ?_
  first | refine Pstep.go (st_loadD1 rfl rfl on70 rfl) ?_ | refine Pstep.go (st_loadP rfl rfl rfl on70 rfl) ?_ | refine Pstep.go (st_loadR rfl rfl (rfl) rfl on70 rfl) ?_
  first | refine Pstep.go (st_lenMap rfl Try.underlying70 rfl) ?_ | refine Pstep.go (st_lenD rfl rfl Try.underlying70 rfl) ?_ | refine Pstep.go (st_lenO rfl Try.underlying70 rfl) ?_ | refine Pstep.go (st_lenSL rfl Try.underlying70 rfl) ?_ | refine Pstep.go (st_lenS rfl Try.underlying70 rfl) ?_
  first | refine Pstep.go (st_gtr rfl rfl rfl) ?_ | refine Pstep.go (st_gtrS rfl rfl rfl) ?_
  refine Pstep.go (st_move rfl rfl) ?_
  first | refine o_splitP 15 rfl (fun h15 => ?_) (fun h15 => ?_) | refine o_splitB 15 rfl (fun h15 => ?_) (fun h15 => ?_)
  · refine o_pass rfl rfl rfl rfl ?_
    refine o_pass rfl rfl rfl rfl ?_
    refine o_pass rfl rfl rfl rfl ?_
    refine o_pass rfl rfl rfl rfl ?_
    refine Pstep.go (st_pickT rfl rfl rfl rfl) ?_
    refine o_nil ?_
    refine a_true rfl rfl ?_
    refine a_seq ?_
    refine a_region ?_
    refine Pstep.go (st_assign rfl rfl) ?_
    refine o_nil ?_
    refine a_ret ?_
    exact ⟨_, [], [], res_of rfl, rfl, rfl, retI (by unfold prbE; rw [if_pos (by omega)]), rfl⟩
  · refine o_run rfl rfl rfl ?_
    first | refine Pstep.go (st_fieldP rfl fi72_0 rfl rfl rfl) ?_ | refine Pstep.go (st_fieldF1 rfl fi72_0 rfl rfl rfl) ?_ | refine Pstep.go (st_fieldFS rfl fi72_0 rfl rfl rfl) ?_ | refine Pstep.go (st_fieldR rfl fi72_0 rfl rfl rfl) ?_
    refine o_run rfl rfl rfl ?_
    first | refine Pstep.go (st_loadD1 rfl rfl on69 rfl) ?_ | refine Pstep.go (st_loadP rfl rfl rfl on69 rfl) ?_ | refine Pstep.go (st_loadR rfl rfl (rfl) rfl on69 rfl) ?_
    refine o_run rfl rfl rfl ?_
    first | refine Pstep.go (st_lenMap rfl Try.underlying69 rfl) ?_ | refine Pstep.go (st_lenD rfl rfl Try.underlying69 rfl) ?_ | refine Pstep.go (st_lenO rfl Try.underlying69 rfl) ?_ | refine Pstep.go (st_lenSL rfl Try.underlying69 rfl) ?_ | refine Pstep.go (st_lenS rfl Try.underlying69 rfl) ?_
    refine o_run rfl rfl rfl ?_
    first | refine Pstep.go (st_gtr rfl rfl rfl) ?_ | refine Pstep.go (st_gtrS rfl rfl rfl) ?_
    refine Pstep.go (st_pickF rfl rfl rfl rfl) ?_
    refine o_nil ?_
    first | refine a_if rfl (fun h20 => ?_) (fun h20 => ?_) | refine a_cond rfl (fun h20 => ?_) (fun h20 => ?_)
    · refine a_seq ?_
      refine a_region ?_
      refine Pstep.go (st_assign rfl rfl) ?_
      refine o_nil ?_
      refine a_ret ?_
      exact ⟨_, [], [], res_of rfl, rfl, rfl, retI (by unfold prbE; rw [if_pos (by omega)]), rfl⟩
    · refine a_skip ?_
      refine a_seq ?_
      refine a_seq ?_
      have hsz : ¬ (4096 < p.it.length ∨ 16384 < p.ro.length) := by omega
      refine a_region ?_
      first | refine Pstep.go (st_loadDS rfl rfl rw72 rfl) ?_ | refine Pstep.go (st_loadPS rfl rfl rw72 rfl rfl rfl) ?_ | refine Pstep.go (st_loadRS rfl rfl (rfl) rfl rw72 rfl) ?_
      refine Pstep.go (st_callP (rooms_p p g1) rfl rfl) ?_
      refine Pstep.go (st_assign rfl rfl) ?_
      refine o_nil ?_
      refine a_seq ?_
      refine a_region ?_
      refine Pstep.go (st_move rfl rfl) ?_
      first | refine Pstep.go (st_neq rfl rfl rfl) ?_ | refine Pstep.go (st_neqSL rfl rfl rfl) ?_ | refine Pstep.go (st_neqS rfl rfl rfl) ?_ | refine Pstep.go (st_neqB Try.underlying29 rfl rfl rfl) ?_ | refine Pstep.go (st_neqP Try.underlying29 rfl rfl rfl) ?_ | refine Pstep.go (st_neqN Try.underlying29 rfl rfl) ?_ | refine Pstep.go (st_neqF Try.underlying29 rfl rfl rfl) ?_ | refine Pstep.go (st_neqFN Try.underlying29 rfl rfl) ?_
      refine o_nil ?_
      first | refine a_if rfl (fun h24 => ?_) (fun h24 => ?_) | refine a_cond rfl (fun h24 => ?_) (fun h24 => ?_)
      · refine a_seq ?_
        refine a_region ?_
        refine Pstep.go (st_move rfl rfl) ?_
        refine Pstep.go (st_assign rfl rfl) ?_
        refine o_nil ?_
        refine a_ret ?_
        exact ⟨_, [], [], res_of rfl, rfl, rfl, retI (prbE_r hsz h24), rfl⟩
      · refine a_skip ?_
        refine a_seq ?_
        have hr0 : roomsE p.ro = 0 := by simpa using h24
        refine a_region ?_
        refine Estep.go (st_makeMap 2 rfl rfl rfl rfl) ?_
        refine Estep.go (st_makeMap 3 rfl rfl rfl rfl) ?_
        refine Estep.go (st_alloc 4 zl125 rfl rfl rfl rfl) ?_
        refine Estep.go (st_storeP rfl rfl rfl rfl rfl rfl rfl sz125) ?_
        refine Pstep.go (st_assign rfl rfl) ?_
        refine o_nil ?_
        refine a_seq ?_
        refine a_seq ?_
        refine a_region ?_
        first | refine Pstep.go (st_fieldP rfl fi72_1 rfl rfl rfl) ?_ | refine Pstep.go (st_fieldF1 rfl fi72_1 rfl rfl rfl) ?_ | refine Pstep.go (st_fieldFS rfl fi72_1 rfl rfl rfl) ?_ | refine Pstep.go (st_fieldR rfl fi72_1 rfl rfl rfl) ?_
        first | refine Pstep.go (st_loadD1 rfl rfl on70 rfl) ?_ | refine Pstep.go (st_loadP rfl rfl rfl on70 rfl) ?_ | refine Pstep.go (st_loadR rfl rfl (rfl) rfl on70 rfl) ?_
        first | refine Pstep.go (st_lenMap rfl Try.underlying70 rfl) ?_ | refine Pstep.go (st_lenD rfl rfl Try.underlying70 rfl) ?_ | refine Pstep.go (st_lenO rfl Try.underlying70 rfl) ?_ | refine Pstep.go (st_lenSL rfl Try.underlying70 rfl) ?_ | refine Pstep.go (st_lenS rfl Try.underlying70 rfl) ?_
        refine Pstep.go (st_move rfl rfl) ?_
        refine o_nil ?_
        refine a_block ?_
        refine a_loopP (α := Nat) (fun k => ⟨69, [(1, (.ptr 1 0 0)), (4, (.ptr 4 0 0)), (5, (.map 3 0)), (29, (.d (.sl none (p.it.map itmD)))), (30, (.d (intD (p.it.length : Int)))), (31, (.d (intD (k : Int))))], [(1, [.blk 72 [.d (.sl none (p.ro.map rooD)), .d (.sl none (p.it.map itmD))]]), (4, [.blk 125 [.map 2 0]]), (2, [mapC intD boolD (setM ((p.it.take k).map Itm.id))]), (3, [mapC intD boolD (setM ((p.it.take k).map Itm.sq))])]⟩) (fun k => k ≤ p.it.length ∧ itemsE p.it = fst0 (((List.range p.it.length).drop k).map (iErr p.it))) (fun k => p.it.length - k) (0) (⟨Nat.zero_le _, rfl⟩) (lep_of hF [1, 4, 2, 3] rfl rfl ⟨rfl, rfl, rfl, rfl, rfl, rfl, trivial⟩) ?_
        rintro k ⟨hk0, hk⟩
        refine a_seq ?_
        refine a_region ?_
        first | refine Pstep.go (st_lss rfl rfl rfl) ?_ | refine Pstep.go (st_lssS rfl rfl rfl) ?_
        refine o_nil ?_
        refine a_seq ?_
        first | refine a_if rfl (fun h32 => ?_) (fun h32 => ?_) | refine a_cond rfl (fun h32 => ?_) (fun h32 => ?_)
        · have hk1 : k < p.it.length := lt_cast h32
          refine a_skip ?_
          refine a_seq ?_
          refine a_block ?_
          refine a_seq ?_
          refine a_region ?_
          have hE := range_cases hk1 hk
          have hgd := getD_at itm0 hk1
          have hgi := g3 _ (List.getElem_mem hk1)
          first | refine Pstep.go (st_indexD (k) rfl rfl (rfl) (getm hk1) Try.underlying70 rfl sz33 rfl) ?_ | refine Pstep.go (st_indexO (k) rfl rfl (rfl) (getm hk1) rfl Try.underlying70 sz33 rfl) ?_
          first | refine Pstep.go (st_loadDS rfl rfl rw33 rfl) ?_ | refine Pstep.go (st_loadPS rfl rfl rw33 rfl rfl rfl) ?_ | refine Pstep.go (st_loadRS rfl rfl (rfl) rfl rw33 rfl) ?_
          refine Estep.go (st_alloc 5 zl33 rfl rfl rfl rfl) ?_
          refine Estep.go (st_storeP rfl rfl rfl rfl rfl rfl rfl sz33) ?_
          refine o_nil ?_
          refine a_seq ?_
          refine a_seq ?_
          refine a_region ?_
          first | refine Pstep.go (st_loadDS rfl rfl rw33 rfl) ?_ | refine Pstep.go (st_loadPS rfl rfl rw33 rfl rfl rfl) ?_ | refine Pstep.go (st_loadRS rfl rfl (rfl) rfl rw33 rfl) ?_
          refine Pstep.go (st_callP (check_p p.it[k] (by omega) (by omega) (by omega)) rfl rfl) ?_
          refine Pstep.go (st_assign rfl rfl) ?_
          refine o_nil ?_
          refine a_seq ?_
          refine a_region ?_
          refine Pstep.go (st_move rfl rfl) ?_
          first | refine Pstep.go (st_neq rfl rfl rfl) ?_ | refine Pstep.go (st_neqSL rfl rfl rfl) ?_ | refine Pstep.go (st_neqS rfl rfl rfl) ?_ | refine Pstep.go (st_neqB Try.underlying29 rfl rfl rfl) ?_ | refine Pstep.go (st_neqP Try.underlying29 rfl rfl rfl) ?_ | refine Pstep.go (st_neqN Try.underlying29 rfl rfl) ?_ | refine Pstep.go (st_neqF Try.underlying29 rfl rfl rfl) ?_ | refine Pstep.go (st_neqFN Try.underlying29 rfl rfl) ?_
          refine o_nil ?_
          first | refine a_if rfl (fun h38 => ?_) (fun h38 => ?_) | refine a_cond rfl (fun h38 => ?_) (fun h38 => ?_)
          · refine a_seq ?_
            refine a_region ?_
            refine Pstep.go (st_move rfl rfl) ?_
            refine Pstep.go (st_assign rfl rfl) ?_
            refine o_nil ?_
            refine a_ret ?_
            exact ⟨_, [], [], res_of rfl, rfl, rfl, retI (prbE_i hsz hr0 (hE.2 _ (by unfold iErr; rw [hgd, if_pos h38]) h38) h38), rfl⟩
          · refine a_skip ?_
            refine a_seq ?_
            refine a_seq ?_
            refine a_region ?_
            first | refine Pstep.go (st_loadD1 rfl rfl on125 rfl) ?_ | refine Pstep.go (st_loadP rfl rfl rfl on125 rfl) ?_ | refine Pstep.go (st_loadR rfl rfl (rfl) rfl on125 rfl) ?_
            first | refine Pstep.go (st_fieldP rfl fi33_0 rfl rfl rfl) ?_ | refine Pstep.go (st_fieldF1 rfl fi33_0 rfl rfl rfl) ?_ | refine Pstep.go (st_fieldFS rfl fi33_0 rfl rfl rfl) ?_ | refine Pstep.go (st_fieldR rfl fi33_0 rfl rfl rfl) ?_
            first | refine Pstep.go (st_loadD1 rfl rfl on3 rfl) ?_ | refine Pstep.go (st_loadP rfl rfl rfl on3 rfl) ?_ | refine Pstep.go (st_loadR rfl rfl (rfl) rfl on3 rfl) ?_
            refine Pstep.go (st_look (setM ((p.it.take k).map Itm.id)) (p.it[k].id) (false) _ rfl rfl rfl mt125 kt3 za4 rfl rfl) ?_
            rw [setM_get]
            refine Pstep.go (st_move rfl rfl) ?_
            first | refine o_splitP 44 rfl (fun h44 => ?_) (fun h44 => ?_) | refine o_splitB 44 rfl (fun h44 => ?_) (fun h44 => ?_)
            · refine o_pass rfl rfl rfl rfl ?_
              refine o_pass rfl rfl rfl rfl ?_
              refine o_pass rfl rfl rfl rfl ?_
              refine o_pass rfl rfl rfl rfl ?_
              refine Pstep.go (st_pickT rfl rfl rfl rfl) ?_
              refine o_nil ?_
              refine a_true rfl rfl ?_
              refine a_seq ?_
              refine a_region ?_
              refine Pstep.go (st_assign rfl rfl) ?_
              refine o_nil ?_
              refine a_ret ?_
              exact ⟨_, [], [], res_of rfl, rfl, rfl, retI (prbE_i hsz hr0 (hE.2 7 (by unfold iErr; rw [hgd, if_neg h38, if_pos (by simp_all)]) (by decide)) (by decide)), rfl⟩
            · refine o_run rfl rfl rfl ?_
              refine Pstep.go (st_move rfl rfl) ?_
              refine o_run rfl rfl rfl ?_
              first | refine Pstep.go (st_fieldP rfl fi33_2 rfl rfl rfl) ?_ | refine Pstep.go (st_fieldF1 rfl fi33_2 rfl rfl rfl) ?_ | refine Pstep.go (st_fieldFS rfl fi33_2 rfl rfl rfl) ?_ | refine Pstep.go (st_fieldR rfl fi33_2 rfl rfl rfl) ?_
              refine o_run rfl rfl rfl ?_
              first | refine Pstep.go (st_loadD1 rfl rfl on3 rfl) ?_ | refine Pstep.go (st_loadP rfl rfl rfl on3 rfl) ?_ | refine Pstep.go (st_loadR rfl rfl (rfl) rfl on3 rfl) ?_
              refine o_run rfl rfl rfl ?_
              refine Pstep.go (st_look (setM ((p.it.take k).map Itm.sq)) (p.it[k].sq) (false) _ rfl rfl rfl mt125 kt3 za4 rfl rfl) ?_
              rw [setM_get]
              refine Pstep.go (st_pickF rfl rfl rfl rfl) ?_
              refine o_nil ?_
              first | refine a_if rfl (fun h49 => ?_) (fun h49 => ?_) | refine a_cond rfl (fun h49 => ?_) (fun h49 => ?_)
              · refine a_seq ?_
                refine a_region ?_
                refine Pstep.go (st_assign rfl rfl) ?_
                refine o_nil ?_
                refine a_ret ?_
                exact ⟨_, [], [], res_of rfl, rfl, rfl, retI (prbE_i hsz hr0 (hE.2 7 (by unfold iErr; rw [hgd, if_neg h38, if_pos (by simp_all)]) (by decide)) (by decide)), rfl⟩
              · refine a_skip ?_
                have n1 : p.it[k].id ∉ (p.it.take k).map Itm.id := by simp_all
                have n2 : p.it[k].sq ∉ (p.it.take k).map Itm.sq := by simp_all
                refine a_drawn [[], [], [1], [], [], [4], [0, 1, 2], [0, 1, 2, 3, 4, 5, 6]] mixed rfl ?_
                refine dws ?_
                first | refine d_pure [4] [4, 2] rfl rfl (fun _ => gp_none (st_loadD1 rfl rfl on125 rfl)) ?_ | refine d_pure [4] [4, 2] rfl rfl (fun _ => gp_none (st_loadP rfl rfl rfl on125 rfl)) ?_ | refine d_pure [4] [4, 2] rfl rfl (fun _ => gp_none (st_loadR rfl rfl (rfl) rfl on125 rfl)) ?_
                first | refine d_pure [7] [] rfl rfl (fun _ => gp_none (st_fieldP rfl fi33_0 rfl rfl rfl)) ?_ | refine d_pureA [7] rfl rfl (fun _ => gp_none (st_fieldP rfl fi33_0 rfl rfl rfl)) ?_ | refine d_pure [7] [] rfl rfl (fun _ => gp_none (st_fieldF1 rfl fi33_0 rfl rfl rfl)) ?_ | refine d_pureA [7] rfl rfl (fun _ => gp_none (st_fieldF1 rfl fi33_0 rfl rfl rfl)) ?_ | refine d_pure [7] [] rfl rfl (fun _ => gp_none (st_fieldFS rfl fi33_0 rfl rfl rfl)) ?_ | refine d_pureA [7] rfl rfl (fun _ => gp_none (st_fieldFS rfl fi33_0 rfl rfl rfl)) ?_ | refine d_pure [7] [] rfl rfl (fun _ => gp_none (st_fieldR rfl fi33_0 rfl rfl rfl)) ?_ | refine d_pureA [7] rfl rfl (fun _ => gp_none (st_fieldR rfl fi33_0 rfl rfl rfl)) ?_
                first | refine d_pure [51] [5] rfl rfl (fun _ => gp_none (st_loadD1 rfl rfl on3 rfl)) ?_ | refine d_pure [51] [5] rfl rfl (fun _ => gp_none (st_loadP rfl rfl rfl on3 rfl)) ?_ | refine d_pure [51] [5] rfl rfl (fun _ => gp_none (st_loadR rfl rfl (rfl) rfl on3 rfl)) ?_
                first | refine d_pure [5] [] rfl rfl (fun _ => gp_none (st_move rfl rfl)) ?_ | refine d_pureA [5] rfl rfl (fun _ => gp_none (st_move rfl rfl)) ?_
                first | refine d_pure [7] [] rfl rfl (fun _ => gp_none (st_fieldP rfl fi33_2 rfl rfl rfl)) ?_ | refine d_pureA [7] rfl rfl (fun _ => gp_none (st_fieldP rfl fi33_2 rfl rfl rfl)) ?_ | refine d_pure [7] [] rfl rfl (fun _ => gp_none (st_fieldF1 rfl fi33_2 rfl rfl rfl)) ?_ | refine d_pureA [7] rfl rfl (fun _ => gp_none (st_fieldF1 rfl fi33_2 rfl rfl rfl)) ?_ | refine d_pure [7] [] rfl rfl (fun _ => gp_none (st_fieldFS rfl fi33_2 rfl rfl rfl)) ?_ | refine d_pureA [7] rfl rfl (fun _ => gp_none (st_fieldFS rfl fi33_2 rfl rfl rfl)) ?_ | refine d_pure [7] [] rfl rfl (fun _ => gp_none (st_fieldR rfl fi33_2 rfl rfl rfl)) ?_ | refine d_pureA [7] rfl rfl (fun _ => gp_none (st_fieldR rfl fi33_2 rfl rfl rfl)) ?_
                first | refine d_pure [54] [5] rfl rfl (fun _ => gp_none (st_loadD1 rfl rfl on3 rfl)) ?_ | refine d_pure [54] [5] rfl rfl (fun _ => gp_none (st_loadP rfl rfl rfl on3 rfl)) ?_ | refine d_pure [54] [5] rfl rfl (fun _ => gp_none (st_loadR rfl rfl (rfl) rfl on3 rfl)) ?_
                first | refine d_eff [50, 52] [2] [] rfl rfl (fun _ => ge_none (st_mapU (setM ((p.it.take k).map Itm.id)) (p.it[k].id) (true) rfl rfl rfl mt125 kt3 rfl rfl)) (.inl ⟨rfl, rfl⟩) rfl rfl rfl rfl rfl ?_ | refine d_eff [50, 52] [2] [] rfl rfl (fun _ => ge_none (st_mapUH (setM ((p.it.take k).map Itm.id)) (p.it[k].id) (true) rfl rfl rfl mt125 kt3 rfl rfl)) (.inl ⟨rfl, rfl⟩) rfl rfl rfl rfl rfl ?_
                refine dwc 7 rfl rfl rfl ?_
                refine dw1 8 rfl rfl ?_
                first | refine Estep.go (st_mapU (setM ((p.it.take k).map Itm.sq)) (p.it[k].sq) (true) rfl rfl rfl mt125 kt3 rfl rfl) ?_ | refine Estep.go (st_mapUH (setM ((p.it.take k).map Itm.sq)) (p.it[k].sq) (true) rfl rfl rfl mt125 kt3 rfl rfl) ?_
                refine o_nil ⟨rfl, ?_⟩
                refine dwe ?_
                refine a_region ?_
                refine Pstep.go (st_add rfl rfl (wrapS (k + 1) (by omega)) rfl) ?_
                refine Pstep.go (st_move rfl rfl) ?_
                refine o_nil ?_
                exact ⟨k + 1, ⟨by show k + 1 ≤ _; omega, hE.1 (by unfold iErr; rw [hgd, if_neg h38, if_neg (by rintro (h | h); exact n1 h; exact n2 h)])⟩, by show p.it.length - (k + 1) < p.it.length - k; omega, lep_of hF [1, 4, 2, 3] rfl (by rw [tk_map hk1, tk_map hk1, ← setM_put n1, ← setM_put n2]; rfl) ⟨rfl, rfl, rfl, rfl, rfl, rfl, trivial⟩⟩
        · refine a_exit ?_
          refine a_seq ?_
          refine a_seq ?_
          have hi0 : itemsE p.it = 0 := by rw [hk, List.drop_of_length_le (by have h := h32; simp only [List.length_range]; omega)]; rfl
          have hfull : p.it.take k = p.it := List.take_of_length_le (by have h := h32; omega)
          rw [hfull]
          refine a_region ?_
          first | refine Pstep.go (st_fieldP rfl fi72_1 rfl rfl rfl) ?_ | refine Pstep.go (st_fieldF1 rfl fi72_1 rfl rfl rfl) ?_ | refine Pstep.go (st_fieldFS rfl fi72_1 rfl rfl rfl) ?_ | refine Pstep.go (st_fieldR rfl fi72_1 rfl rfl rfl) ?_
          first | refine Pstep.go (st_loadD1 rfl rfl on70 rfl) ?_ | refine Pstep.go (st_loadP rfl rfl rfl on70 rfl) ?_ | refine Pstep.go (st_loadR rfl rfl (rfl) rfl on70 rfl) ?_
          first | refine Pstep.go (st_lenMap rfl Try.underlying70 rfl) ?_ | refine Pstep.go (st_lenD rfl rfl Try.underlying70 rfl) ?_ | refine Pstep.go (st_lenO rfl Try.underlying70 rfl) ?_ | refine Pstep.go (st_lenSL rfl Try.underlying70 rfl) ?_ | refine Pstep.go (st_lenS rfl Try.underlying70 rfl) ?_
          refine Pstep.go (st_move rfl rfl) ?_
          refine o_nil ?_
          refine a_block ?_
          refine a_loopP (α := Nat) (fun k => ⟨69, [(4, (.ptr 4 0 0)), (58, (.d (.sl none (p.it.map itmD)))), (59, (.d (intD (p.it.length : Int)))), (60, (.d (intD (k : Int))))], [(4, [.blk 125 [.map 2 0]]), (2, [mapC intD boolD (setM (p.it.map Itm.id))])]⟩) (fun k => k ≤ p.it.length ∧ afterE p.it = fst0 ((p.it.drop k).map (fErr (p.it.map Itm.id)))) (fun k => p.it.length - k) (0) (⟨Nat.zero_le _, rfl⟩) (lep_of hF [4, 2] rfl rfl ⟨rfl, rfl, rfl, rfl, trivial⟩) ?_
          rintro k ⟨hk0, hk⟩
          refine a_seq ?_
          refine a_region ?_
          first | refine Pstep.go (st_lss rfl rfl rfl) ?_ | refine Pstep.go (st_lssS rfl rfl rfl) ?_
          refine o_nil ?_
          refine a_seq ?_
          first | refine a_if rfl (fun h61 => ?_) (fun h61 => ?_) | refine a_cond rfl (fun h61 => ?_) (fun h61 => ?_)
          · have hk1 : k < p.it.length := lt_cast h61
            refine a_skip ?_
            refine a_seq ?_
            refine a_block ?_
            refine a_seq ?_
            refine a_region ?_
            have hE := fst0_cases hk1 hk
            have hgi := g3 _ (List.getElem_mem hk1)
            first | refine Pstep.go (st_indexD (k) rfl rfl (rfl) (getm hk1) Try.underlying70 rfl sz33 rfl) ?_ | refine Pstep.go (st_indexO (k) rfl rfl (rfl) (getm hk1) rfl Try.underlying70 sz33 rfl) ?_
            first | refine Pstep.go (st_loadDS rfl rfl rw33 rfl) ?_ | refine Pstep.go (st_loadPS rfl rfl rw33 rfl rfl rfl) ?_ | refine Pstep.go (st_loadRS rfl rfl (rfl) rfl rw33 rfl) ?_
            refine Estep.go (st_alloc 6 zl33 rfl rfl rfl rfl) ?_
            refine Estep.go (st_storeP rfl rfl rfl rfl rfl rfl rfl sz33) ?_
            refine o_nil ?_
            refine a_seq ?_
            refine a_region ?_
            first | refine Pstep.go (st_fieldP rfl fi33_5 rfl rfl rfl) ?_ | refine Pstep.go (st_fieldF1 rfl fi33_5 rfl rfl rfl) ?_ | refine Pstep.go (st_fieldFS rfl fi33_5 rfl rfl rfl) ?_ | refine Pstep.go (st_fieldR rfl fi33_5 rfl rfl rfl) ?_
            first | refine Pstep.go (st_loadD1 rfl rfl on24 rfl) ?_ | refine Pstep.go (st_loadP rfl rfl rfl on24 rfl) ?_ | refine Pstep.go (st_loadR rfl rfl (rfl) rfl on24 rfl) ?_
            refine Pstep.go (st_makeFunc rfl rfl) ?_
            refine Estep.go (st_callD ((containsF_c (p.it.map Itm.id) p.it[k].af (by omega)).by [(910, 4), (911, 2)] rfl) rfl [4, 2] ⟨rfl, rfl, trivial⟩ rfl rfl rfl rfl rfl rfl rfl rfl rfl) ?_
            refine o_nil ?_
            first | refine a_if rfl (fun h67 => ?_) (fun h67 => ?_) | refine a_cond rfl (fun h67 => ?_) (fun h67 => ?_)
            · refine a_seq ?_
              refine a_region ?_
              refine Pstep.go (st_assign rfl rfl) ?_
              refine o_nil ?_
              refine a_ret ?_
              exact ⟨_, [], [], res_of rfl, rfl, rfl, retI (prbE_a hsz hr0 hi0 (hE.2 9 (by unfold fErr; rw [if_pos (by simpa using h67)]) (by decide))), rfl⟩
            · refine a_skip ?_
              refine a_region ?_
              refine Pstep.go (st_add rfl rfl (wrapS (k + 1) (by omega)) rfl) ?_
              refine Pstep.go (st_move rfl rfl) ?_
              refine o_nil ?_
              exact ⟨k + 1, ⟨by show k + 1 ≤ _; omega, hE.1 (by unfold fErr; rw [if_neg (by simpa using h67)])⟩, by show p.it.length - (k + 1) < p.it.length - k; omega, lep_of hF [4, 2] rfl (rfl) ⟨rfl, rfl, rfl, rfl, trivial⟩⟩
          · refine a_exit ?_
            refine a_seq ?_
            refine a_region ?_
            refine Pstep.go (st_assign rfl rfl) ?_
            refine o_nil ?_
            refine a_ret ?_
            exact ⟨_, [], [], res_of rfl, rfl, rfl, retI (prbE_a hsz hr0 hi0 (by rw [hk, fst0_end (by have h := h61; omega)])), rfl⟩
end Go.Proofs.Ytfmpiabmnjmobaa
