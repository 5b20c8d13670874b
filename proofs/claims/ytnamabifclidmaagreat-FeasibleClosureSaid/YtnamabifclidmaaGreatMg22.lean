/- Layer 29: problems with few items: feasible sets, lists, the enumeration of sets. -/
import Derived.Test.YtnamabifclidmaaGreatMg21
namespace Go.Proofs.YtnamabifclidmaaGreat
open Go.RowKit

def rowS (x : Nat) (r : List Int) : Int := ((List.range r.length).map fun i => if x.testBit i = true then r.getD i 0 else 0).sum
def overS (s : Sma) (x : Nat) (k : Nat) : Bool := decide (s.rm.getD k 0 + rowS x (s.de.getD k []) < 0)
def feaS (s : Sma) (x : Nat) : Bool := !(List.range s.rm.length).any (overS s x)
def rowP (x : Nat) (r : List Int) (k : Nat) (a : Int) : Int := (List.range k).foldl (fun c i => c + if x.testBit i = true then r.getD i 0 else 0) a
theorem rowP_eq (x : Nat) (r : List Int) (a : Int) : rowP x r r.length a = a + rowS x r := by
  unfold rowP rowS
  have key : ∀ (l : List Nat) (a : Int), l.foldl (fun c i => c + if x.testBit i = true then r.getD i 0 else 0) a = a + (l.map fun i => if x.testBit i = true then r.getD i 0 else 0).sum := fun l => by
    induction l with
    | nil => intro a; simp
    | cons i l ih => intro a; rw [List.foldl_cons, ih, List.map_cons, List.sum_cons]; omega
  exact key _ _
theorem rowP_snoc (x : Nat) (r : List Int) (k : Nat) (a : Int) : rowP x r (k + 1) a = rowP x r k a + if x.testBit k = true then r.getD k 0 else 0 := by
  unfold rowP; rw [List.range_succ, List.foldl_append]; rfl
theorem rowP_b {x : Nat} {r : List Int} (hr : ∀ v ∈ r, -1000000000000000 ≤ v ∧ v ≤ 1000000000000000) (a : Int) : ∀ k : Nat, k ≤ 1000 → a - k * 1000000000000000 ≤ rowP x r k a ∧ rowP x r k a ≤ a + k * 1000000000000000
  | 0, _ => by unfold rowP; simp
  | k + 1, h => by
    have ih := rowP_b (x := x) hr a k (by omega)
    rw [rowP_snoc]
    have hv : -1000000000000000 ≤ r.getD k 0 ∧ r.getD k 0 ≤ 1000000000000000 := by
      rw [List.getD_eq_getElem?_getD]
      cases hk : r[k]? with
      | none => simp
      | some v => exact hr v (List.mem_of_getElem? hk)
    split <;> omega
set_option maxRecDepth 100000 in
theorem feaS_p (s : Sma) (x : Nat) (hx : x < 4294967296) (hn : s.rm.length ≤ 100000) (hde : s.de.length = s.rm.length) (hdl : ∀ r ∈ s.de, r.length ≤ 32 ∧ ∀ v ∈ r, -1000000000000000 ≤ v ∧ v ≤ 1000000000000000) (hrm : ∀ v ∈ s.rm, 0 ≤ v ∧ v ≤ 4000000000000000) : PCalls Tryz.prog 61 [.d (.ptr (smaD s)), .d (u32D x)] (boolD (feaS s x)) := by
  refine a_enter Tryz.func61 rfl rfl Tryz.ntmps61 rfl rfl rfl fun F hF => ?_
  refine a_seq ?_
  refine a_region ?_
  refine Pstep.go (st_assign rfl rfl) ?_
  refine o_nil ?_
  refine a_seq ?_
  refine a_seq ?_
  refine a_region ?_
  refine Pstep.go (st_move rfl rfl) ?_
  first | refine Pstep.go (st_nilCheckP rfl rfl) ?_ | refine Pstep.go (st_nilCheckD rfl rfl) ?_ | refine Pstep.go (st_nilCheckR rfl rfl) ?_
  first | refine Pstep.go (st_fieldP rfl fi170_3 rfl rfl rfl) ?_ | refine Pstep.go (st_fieldF1 rfl fi170_3 rfl rfl rfl) ?_ | refine Pstep.go (st_fieldFS rfl fi170_3 rfl rfl rfl) ?_ | refine Pstep.go (st_fieldR rfl fi170_3 rfl rfl rfl) ?_
  first | refine Pstep.go (st_loadD1 rfl rfl on168 rfl) ?_ | refine Pstep.go (st_loadP rfl rfl rfl on168 rfl) ?_ | refine Pstep.go (st_loadR rfl rfl (rfl) rfl on168 rfl) ?_
  first | refine Pstep.go (st_lenMap rfl Tryz.underlying168 rfl) ?_ | refine Pstep.go (st_lenD rfl rfl Tryz.underlying168 rfl) ?_ | refine Pstep.go (st_lenO rfl Tryz.underlying168 rfl) ?_ | refine Pstep.go (st_lenSL rfl Tryz.underlying168 rfl) ?_ | refine Pstep.go (st_lenS rfl Tryz.underlying168 rfl) ?_
  refine Pstep.go (st_move rfl rfl) ?_
  refine o_nil ?_
  refine a_block ?_
  refine a_loop (α := Nat) (fun k => ⟨44, [(0, .d (.ptr (smaD s))), (1, .d (u32D x)), (12, (.d (.sl none (s.rm.map intD)))), (13, (.d (intD (s.rm.length : Int)))), (14, (.d (intD (k : Int))))], []⟩) (fun k => k ≤ s.rm.length ∧ ∀ i, i < k → overS s x i = false) (fun k => s.rm.length - k) (0) (⟨Nat.zero_le _, fun i h => by omega⟩) (le_of_has ⟨rfl, rfl, rfl, rfl, rfl, trivial⟩) ?_
  rintro k ⟨hk0, hk⟩
  refine a_seq ?_
  refine a_region ?_
  first | refine Pstep.go (st_lss rfl rfl rfl) ?_ | refine Pstep.go (st_lssS rfl rfl rfl) ?_
  refine o_nil ?_
  refine a_seq ?_
  first | refine a_if rfl (fun h15 => ?_) (fun h15 => ?_) | refine a_cond rfl (fun h15 => ?_) (fun h15 => ?_)
  · have hk1 : k < s.rm.length := lt_cast h15
    refine a_skip ?_
    refine a_seq ?_
    refine a_block ?_
    refine a_seq ?_
    refine a_region ?_
    refine Pstep.go (st_move rfl rfl) ?_
    have hkd : k < s.de.length := by omega
    have hgd := getD_at 0 hk1
    have hge := getD_at ([] : List Int) hkd
    have hrk := hrm _ (List.getElem_mem hk1)
    have hdk := hdl _ (List.getElem_mem hkd)
    first | refine Pstep.go (st_indexD (k) rfl rfl (rfl) (getm hk1) Tryz.underlying168 rfl sz2 rfl) ?_ | refine Pstep.go (st_indexO (k) rfl rfl (rfl) (getm hk1) rfl Tryz.underlying168 sz2 rfl) ?_
    first | refine Pstep.go (st_loadD1 rfl rfl on2 rfl) ?_ | refine Pstep.go (st_loadP rfl rfl rfl on2 rfl) ?_ | refine Pstep.go (st_loadR rfl rfl (rfl) rfl on2 rfl) ?_
    refine Pstep.go (st_assign rfl rfl) ?_
    refine Pstep.go (st_assign rfl rfl) ?_
    refine o_nil ?_
    refine a_seq ?_
    refine a_seq ?_
    refine a_region ?_
    refine Pstep.go (st_move rfl rfl) ?_
    first | refine Pstep.go (st_nilCheckP rfl rfl) ?_ | refine Pstep.go (st_nilCheckD rfl rfl) ?_ | refine Pstep.go (st_nilCheckR rfl rfl) ?_
    first | refine Pstep.go (st_fieldP rfl fi170_2 rfl rfl rfl) ?_ | refine Pstep.go (st_fieldF1 rfl fi170_2 rfl rfl rfl) ?_ | refine Pstep.go (st_fieldFS rfl fi170_2 rfl rfl rfl) ?_ | refine Pstep.go (st_fieldR rfl fi170_2 rfl rfl rfl) ?_
    first | refine Pstep.go (st_loadD1 rfl rfl on167 rfl) ?_ | refine Pstep.go (st_loadP rfl rfl rfl on167 rfl) ?_ | refine Pstep.go (st_loadR rfl rfl (rfl) rfl on167 rfl) ?_
    refine Pstep.go (st_move rfl rfl) ?_
    first | refine Pstep.go (st_indexD (k) rfl rfl (rfl) (getm hkd) Tryz.underlying167 rfl sz168 rfl) ?_ | refine Pstep.go (st_indexO (k) rfl rfl (rfl) (getm hkd) rfl Tryz.underlying167 sz168 rfl) ?_
    first | refine Pstep.go (st_loadD1 rfl rfl on168 rfl) ?_ | refine Pstep.go (st_loadP rfl rfl rfl on168 rfl) ?_ | refine Pstep.go (st_loadR rfl rfl (rfl) rfl on168 rfl) ?_
    first | refine Pstep.go (st_lenMap rfl Tryz.underlying168 rfl) ?_ | refine Pstep.go (st_lenD rfl rfl Tryz.underlying168 rfl) ?_ | refine Pstep.go (st_lenO rfl Tryz.underlying168 rfl) ?_ | refine Pstep.go (st_lenSL rfl Tryz.underlying168 rfl) ?_ | refine Pstep.go (st_lenS rfl Tryz.underlying168 rfl) ?_
    refine Pstep.go (st_move rfl rfl) ?_
    refine o_nil ?_
    refine a_block ?_
    refine a_loop (α := Nat) (fun j => ⟨44, [(0, .d (.ptr (smaD s))), (1, .d (u32D x)), (6, (.d (intD (rowP x s.de[k] j s.rm[k])))), (12, (.d (.sl none (s.rm.map intD)))), (13, (.d (intD (s.rm.length : Int)))), (14, (.d (intD (k : Int)))), (25, (.d (.sl none (s.de[k].map intD)))), (26, (.d (intD (s.de[k].length : Int)))), (27, (.d (intD (j : Int))))], []⟩) (fun j => j ≤ s.de[k].length) (fun j => s.de[k].length - j) (0) (Nat.zero_le _) (le_of_has ⟨rfl, rfl, rfl, rfl, rfl, rfl, rfl, rfl, rfl, trivial⟩) ?_
    rintro j hj0
    refine a_seq ?_
    refine a_region ?_
    first | refine Pstep.go (st_lss rfl rfl rfl) ?_ | refine Pstep.go (st_lssS rfl rfl rfl) ?_
    refine o_nil ?_
    refine a_seq ?_
    first | refine a_if rfl (fun h28 => ?_) (fun h28 => ?_) | refine a_cond rfl (fun h28 => ?_) (fun h28 => ?_)
    · have hj1 : j < s.de[k].length := lt_cast h28
      refine a_skip ?_
      refine a_seq ?_
      refine a_block ?_
      refine a_seq ?_
      refine a_region ?_
      refine Pstep.go (st_move rfl rfl) ?_
      have hgj := getD_at 0 hj1
      have hpb := rowP_b (x := x) hdk.2 s.rm[k] j (by omega)
      have hvj := hdk.2 _ (List.getElem_mem hj1)
      first | refine Pstep.go (st_indexD (j) rfl rfl (rfl) (getm hj1) Tryz.underlying168 rfl sz2 rfl) ?_ | refine Pstep.go (st_indexO (j) rfl rfl (rfl) (getm hj1) rfl Tryz.underlying168 sz2 rfl) ?_
      first | refine Pstep.go (st_loadD1 rfl rfl on2 rfl) ?_ | refine Pstep.go (st_loadP rfl rfl rfl on2 rfl) ?_ | refine Pstep.go (st_loadR rfl rfl (rfl) rfl on2 rfl) ?_
      refine Pstep.go (st_assign rfl rfl) ?_
      refine Pstep.go (st_assign rfl rfl) ?_
      refine o_nil ?_
      refine a_seq ?_
      refine a_region ?_
      refine Pstep.go (st_move rfl rfl) ?_
      refine Pstep.go (st_move rfl rfl) ?_
      refine Pstep.go (st_shr rfl rfl (by omega) (shrU x j (by omega)) rfl) ?_
      refine Pstep.go (st_bits rfl rfl rfl (and1U (shr_lt hx j)) rfl) ?_
      first | refine Pstep.go (st_eql rfl rfl rfl) ?_ | refine Pstep.go (st_eqlSL rfl rfl rfl) ?_ | refine Pstep.go (st_eqlS rfl rfl rfl) ?_ | refine Pstep.go (st_eqlB Tryz.underlying65 rfl rfl rfl) ?_ | refine Pstep.go (st_eqlP Tryz.underlying65 rfl rfl rfl) ?_ | refine Pstep.go (st_eqlN Tryz.underlying65 rfl rfl) ?_ | refine Pstep.go (st_eqlF Tryz.underlying65 rfl rfl rfl) ?_ | refine Pstep.go (st_eqlFN Tryz.underlying65 rfl rfl) ?_
      refine o_nil ?_
      first | refine a_if rfl (fun h36 => ?_) (fun h36 => ?_) | refine a_cond rfl (fun h36 => ?_) (fun h36 => ?_)
      · refine a_region ?_
        refine Pstep.go (st_move rfl rfl) ?_
        refine Pstep.go (st_move rfl rfl) ?_
        refine Pstep.go (st_add rfl rfl (IntWalk.i64_in _ (by omega)) rfl) ?_
        refine Pstep.go (st_assign rfl rfl) ?_
        refine o_nil ?_
        refine a_region ?_
        refine Pstep.go (st_add rfl rfl (wrapS (j + 1) (by omega)) rfl) ?_
        refine Pstep.go (st_move rfl rfl) ?_
        refine o_nil ?_
        first | exact ⟨j + 1, by show j + 1 ≤ _; omega, by show s.de[k].length - (j + 1) < s.de[k].length - j; omega, ⟨rfl, rfl, fun _ _ => Has.get (l := [(0, _), (1, _), (6, _), (12, _), (13, _), (14, _), (25, _), (26, _), (27, _)]) ⟨rfl, rfl, by rw [rowP_snoc, if_pos ((bit_iff x j).1 h36), hgj]; rfl, rfl, rfl, rfl, rfl, rfl, rfl, trivial⟩⟩⟩ | exact ⟨j + 1, by show j + 1 ≤ _; omega, by show s.de[k].length - (j + 1) < s.de[k].length - j; omega, ⟨rfl, rfl, fun _ _ => Has.get (l := [(0, _), (1, _), (6, _), (12, _), (13, _), (14, _), (25, _), (26, _), (27, _)]) ⟨rfl, rfl, by rw [rowP_snoc, if_neg (by rw [bit_no h36]; decide), Int.add_zero]; rfl, rfl, rfl, rfl, rfl, rfl, rfl, trivial⟩⟩⟩
      · refine a_skip ?_
        refine a_region ?_
        refine Pstep.go (st_add rfl rfl (wrapS (j + 1) (by omega)) rfl) ?_
        refine Pstep.go (st_move rfl rfl) ?_
        refine o_nil ?_
        first | exact ⟨j + 1, by show j + 1 ≤ _; omega, by show s.de[k].length - (j + 1) < s.de[k].length - j; omega, ⟨rfl, rfl, fun _ _ => Has.get (l := [(0, _), (1, _), (6, _), (12, _), (13, _), (14, _), (25, _), (26, _), (27, _)]) ⟨rfl, rfl, by rw [rowP_snoc, if_pos ((bit_iff x j).1 h36), hgj]; rfl, rfl, rfl, rfl, rfl, rfl, rfl, trivial⟩⟩⟩ | exact ⟨j + 1, by show j + 1 ≤ _; omega, by show s.de[k].length - (j + 1) < s.de[k].length - j; omega, ⟨rfl, rfl, fun _ _ => Has.get (l := [(0, _), (1, _), (6, _), (12, _), (13, _), (14, _), (25, _), (26, _), (27, _)]) ⟨rfl, rfl, by rw [rowP_snoc, if_neg (by rw [bit_no h36]; decide), Int.add_zero]; rfl, rfl, rfl, rfl, rfl, rfl, rfl, trivial⟩⟩⟩
    · have hov1 : rowP x s.de[k] j s.rm[k] = s.rm[k] + rowS x s.de[k] := by have e : j = s.de[k].length := by { have h := h28; omega }; rw [e, rowP_eq]
      refine a_exit ?_
      refine a_seq ?_
      refine a_region ?_
      refine Pstep.go (st_move rfl rfl) ?_
      first | refine Pstep.go (st_lss rfl rfl rfl) ?_ | refine Pstep.go (st_lssS rfl rfl rfl) ?_
      refine o_nil ?_
      first | refine a_if rfl (fun h42 => ?_) (fun h42 => ?_) | refine a_cond rfl (fun h42 => ?_) (fun h42 => ?_)
      · refine a_seq ?_
        refine a_region ?_
        refine Pstep.go (st_assign rfl rfl) ?_
        refine o_nil ?_
        refine a_ret ?_
        exact ⟨_, [], [], res_of rfl, rfl, rfl, retB3 (by unfold feaS; rw [any_yes hk1 (by unfold overS; rw [hgd, hge, ← hov1]; exact decide_eq_true h42)]; rfl), rfl⟩
      · refine a_skip ?_
        refine a_region ?_
        have hov : overS s x k = false := by unfold overS; rw [hgd, hge, ← hov1]; exact decide_eq_false h42
        refine Pstep.go (st_add rfl rfl (wrapS (k + 1) (by omega)) rfl) ?_
        refine Pstep.go (st_move rfl rfl) ?_
        refine o_nil ?_
        exact ⟨k + 1, ⟨by show k + 1 ≤ _; omega, fun i hi => by rcases Nat.lt_or_ge i k with h | h; exact hk i h; have e : i = k := by { omega }; subst e; exact hov⟩, by show s.rm.length - (k + 1) < s.rm.length - k; omega, ⟨rfl, rfl, fun _ _ => Has.get (l := [(0, _), (1, _), (12, _), (13, _), (14, _)]) ⟨rfl, rfl, rfl, rfl, rfl, trivial⟩⟩⟩
  · refine a_exit ?_
    refine a_seq ?_
    refine a_region ?_
    refine Pstep.go (st_assign rfl rfl) ?_
    refine o_nil ?_
    refine a_ret ?_
    exact ⟨_, [], [], res_of rfl, rfl, rfl, retB3 (by unfold feaS; rw [any_no hk (by have h := h15; omega)]; rfl), rfl⟩
end Go.Proofs.YtnamabifclidmaaGreat
/- Layer 29: the enumeration of sets. -/
namespace Go.Proofs.YtnamabifclidmaaGreat
open Go.RowKit

/-- All sets that have 'left' more elements than x, taken from the places from 'frm' on. -/
def enumX (n : Nat) : Nat → Nat → Nat → List Nat
  | 0, _, x => [x]
  | l + 1, frm, x => ((List.range (n + 1 - (l + 1) - frm)).map (frm + ·)).flatMap fun i => enumX n l (i + 1) (x ||| 1 <<< i)
section
variable {β : Type} (step : β → Nat → β × Bool)
/-- Whether the rounds go on. -/
def feedB : β → List Nat → Bool
  | _, [] => true
  | b, x :: r => match step b x with
    | (b', true) => feedB b' r
    | (_, false) => false
theorem feedB_cons {b : β} {x : Nat} {r : List Nat} : feedB step b (x :: r) = ((step b x).2 && feedB step (step b x).1 r) := by
  simp only [feedB]
  generalize step b x = y
  obtain ⟨y1, y2⟩ := y
  cases y2 <;> rfl
theorem feed_app2 : ∀ (b : β) (l m : List Nat), feed step b (l ++ m) = bif feedB step b l then feed step (feed step b l) m else feed step b l
  | b, [], m => rfl
  | b, x :: l, m => by
    rw [List.cons_append, feed_cons', feed_cons', feedB_cons]
    by_cases h : (step b x).2 = true
    · rw [if_pos h, if_pos h, h, Bool.true_and]; exact feed_app2 _ l m
    · have h' : (step b x).2 = false := by simpa using h
      rw [if_neg h, if_neg h, h', Bool.false_and]; rfl
theorem feedB_app : ∀ (b : β) (l m : List Nat), feedB step b (l ++ m) = (feedB step b l && feedB step (feed step b l) m)
  | b, [], m => rfl
  | b, x :: l, m => by
    rw [List.cons_append, feed_cons', feedB_cons, feedB_cons]
    by_cases h : (step b x).2 = true
    · rw [if_pos h, h, Bool.true_and, Bool.true_and]; exact feedB_app _ l m
    · have h' : (step b x).2 = false := by simpa using h
      rw [h']; rfl
theorem Feeds_app1 {P : Program} {l : Nat} {enc : Nat → List AV} {H : β → Hp} : ∀ {b : β} {r m : List Nat}, Feeds P l enc H step b (r ++ m) → Feeds P l enc H step b r
  | _, [], _, _ => trivial
  | _, _ :: _, _, h => ⟨h.1, fun hg => Feeds_app1 (h.2 hg)⟩
theorem Feeds_app2 {P : Program} {l : Nat} {enc : Nat → List AV} {H : β → Hp} : ∀ {b : β} {r m : List Nat}, Feeds P l enc H step b (r ++ m) → feedB step b r = true → Feeds P l enc H step (feed step b r) m
  | _, [], _, h, _ => h
  | b, x :: r, m, h, hb => by
    rw [feedB_cons] at hb
    by_cases hg : (step b x).2 = true
    · rw [hg, Bool.true_and] at hb
      rw [feed_cons', if_pos hg]
      exact Feeds_app2 (h.2 hg) hb
    · have h' : (step b x).2 = false := by simpa using hg
      rw [h'] at hb; cases hb
end
theorem hpIn_mono {nm nm' : List Nat} (h : ∀ f, f ∈ nm → f ∈ nm') : ∀ {H : Hp}, hpIn nm H = true → hpIn nm' H = true := by
  have hm : ∀ f, memB f nm = true → memB f nm' = true := fun f hf => memB_spec.2 (h f (memB_spec.1 hf))
  have ho : ∀ (l : List AObj), objsIn nm l = true → objsIn nm' l = true := by
    intro l
    induction l with
    | nil => intro _; rfl
    | cons o r ih =>
      intro hr
      cases o with
      | blk t cs =>
        simp only [objsIn, Bool.and_eq_true] at hr ⊢
        refine ⟨?_, ih hr.2⟩
        have key : ∀ l : List AV, okC (inNm nm) l = true → okC (inNm nm') l = true := by
          intro l
          induction l with
          | nil => intro _; rfl
          | cons a l ihl =>
            intro hq
            simp only [okC, Bool.and_eq_true] at hq ⊢
            exact ⟨AV.ok_mono (fun f _ hf => hm f hf) hq.1, ihl hq.2⟩
        exact key _ hr.1
      | row t k xs =>
        simp only [objsIn, Bool.and_eq_true, List.all_eq_true] at hr ⊢
        exact ⟨fun x hx => okL_mono (fun f _ hf => hm f hf) (hr.1 x hx), ih hr.2⟩
      | rowD t k xs => simp only [objsIn] at hr ⊢; exact ih hr
      | loop L =>
        simp only [objsIn, Bool.and_eq_true] at hr ⊢
        refine ⟨?_, ih hr.2⟩
        have key : ∀ e : List (Nat × AV), okEnv (inNm nm) e = true → okEnv (inNm nm') e = true := by
          intro e
          induction e with
          | nil => intro _; rfl
          | cons q e ihe =>
            obtain ⟨t, a⟩ := q
            intro hq
            simp only [okEnv, Bool.and_eq_true] at hq ⊢
            exact ⟨AV.ok_mono (fun f _ hf => hm f hf) hq.1, ihe hq.2⟩
        exact key _ hr.1
      | map bs es => simp only [objsIn] at hr ⊢; exact ih hr
      | iter f i c seen => simp only [objsIn, Bool.and_eq_true] at hr ⊢; exact ⟨hm _ hr.1, ih hr.2⟩
      | addr f i v => simp only [objsIn, Bool.and_eq_true] at hr ⊢; exact ⟨hm _ hr.1, ih hr.2⟩
      | any => simp only [objsIn] at hr ⊢; exact ih hr
  intro H
  induction H with
  | nil => intro _; rfl
  | cons q r ih =>
    obtain ⟨f, l⟩ := q
    intro hh
    simp only [hpIn, Bool.and_eq_true] at hh ⊢
    exact ⟨ho _ hh.1, ih hh.2⟩
theorem rest?_cons {nm : List Nat} {f : Nat} {x : List AObj} {H : Hp} (hf : memB f nm = false) (hH : rest? nm H = some []) : rest? nm ((f, x) :: H) = some [(f, x)] := by
  simp only [rest?, hH, hf]
end Go.Proofs.YtnamabifclidmaaGreat
/- Layer 29: the enumeration of sets, walked. -/
namespace Go.Proofs.YtnamabifclidmaaGreat
open Go.RowKit

abbrev cS (s : Sma) : AV := .d (.ptr (.ptr (smaD s)))
abbrev cY (l : Nat) : AV := .d (.ptr (.raw (yieldV l)))
abbrev fnX (s : Sma) (l : Nat) : AV := .fn 86 [cS s, cY l, .ptr 980 0 0]
abbrev blkX (s : Sma) (l : Nat) : Nat × List AObj := (980, [.blk 165 [fnX s l]])
abbrev HX (s : Sma) (l : Nat) (h : Hp) : Hp := blkX s l :: h
def encU (x : Nat) : List AV := [.d (u32D x)]
theorem hfam_snoc {f g : Nat} {x : List AObj} (hg : g ≠ f) : ∀ H : Hp, hfam (H ++ [(f, x)]) g = hfam H g
  | [] => by simp only [List.nil_append, hfam, beq_ne (Ne.symm hg)]
  | (k, y) :: H => by
    simp only [List.cons_append, hfam, hfam_snoc hg H]
theorem hfam_snoc_self {f : Nat} {x : List AObj} : ∀ {H : Hp}, hfam H f = none → hfam (H ++ [(f, x)]) f = some x
  | [], _ => by simp only [List.nil_append, hfam, Nat.beq_refl]
  | (k, y) :: H, h => by
    simp only [hfam] at h
    simp only [List.cons_append, hfam]
    cases hk : Nat.beq k f with
    | true => rw [hk] at h; cases h
    | false => rw [hk] at h; exact hfam_snoc_self h
theorem hfam_none {H : Hp} {f : Nat} (h : memB f (hpN H) = false) : hfam H f = none := by
  cases hh : hfam H f with
  | none => rfl
  | some l =>
    have := memB_spec.2 (hpN_mem hh)
    rw [h] at this; cases this
theorem part_snoc {f : Nat} {x : List AObj} {H : Hp} {N : List Nat} (hN : hpN H = N) (hP : part? H N = some H) (hm : memB f N = false) : part? (H ++ [(f, x)]) (f :: N) = some ((f, x) :: H) := by
  have key : ∀ M : List Nat, memB f M = false → part? (H ++ [(f, x)]) M = part? H M := by
    intro M
    induction M with
    | nil => intro _; rfl
    | cons g M ih =>
      intro h
      simp only [memB, Bool.or_eq_false_iff] at h
      have hne : g ≠ f := fun e => by
        have := h.1; rw [e] at this
        first | (rw [Nat.beq_refl] at this; cases this) | simp at this
      simp only [part?, ih h.2, hfam_snoc hne]
  have h1 := hfam_snoc_self (x := x) (hfam_none (H := H) (f := f) (by rw [hN]; exact hm))
  simp only [part?, key N hm, hP, h1]
theorem filter_flat {α β : Type} (p : β → Bool) (f : α → List β) : ∀ l : List α, (l.flatMap f).filter p = l.flatMap fun a => (f a).filter p
  | [] => rfl
  | a :: l => by rw [List.flatMap_cons, List.filter_append, List.flatMap_cons, filter_flat p f l]
theorem keep980 {s : Sma} {l : Nat} {CH : Hp} {N : List Nat} (hm : memB 980 N = false) : keepH? (okRef CH N) [blkX s l] = some [blkX s l] := by
  have h : okRef CH N 980 0 = true := by unfold okRef; rw [hm]; rfl
  simp only [keepH?, keepOs?, keepO?, keepL?, AV.ok, okL, AV.okS, h, Bool.and_true]
theorem fams980 {s : Sma} {l : Nat} {h : Hp} {N : List Nat} (hm : memB 980 N = false) : FamsEq (HX s l h) h N := famsEq_of fun g hg => by
  have hne : 980 ≠ g := fun e => by
    have := memB_spec.2 hg
    rw [← e, hm] at this; cases this
  simp only [hfam, beq_ne hne]
section
variable {β : Type}
set_option maxRecDepth 100000 in
theorem ext_c (s : Sma) (hbl : ∀ b ∈ s.bl, b < 4294967296) (hbn : s.bl.length ≤ 32) (hn : s.ids.length ≤ 31) (l : Nat) (H : β → Hp) (N : List Nat) (step : β → Nat → β × Bool) (hN : ∀ st, hpN (H st) = N) (hI : ∀ st, hpIn N (H st) = true) (hP : ∀ st, part? (H st) N = some (H st)) (hm : memB 980 N = false) :
    ∀ (left frm x : Nat) (st0 : β), frm ≤ 32 → left ≤ 32 → x < 4294967296 → Feeds Tryz.prog l encU H step st0 ((enumX s.ids.length left frm x).filter (admS s)) →
    ACalls Tryz.prog 86 [.d (u32D x), .d (intD (frm : Int)), .d (intD (left : Int)), cS s, cY l, .ptr 980 0 0] (HX s l (H st0)) fun r H' => r = .d (boolD (feedB step st0 ((enumX s.ids.length left frm x).filter (admS s)))) ∧ H' = HX s l (H (feed step st0 ((enumX s.ids.length left frm x).filter (admS s)))) := by
  have x1 : ∀ st, namesIn (980 :: N) (HX s l (H st)) = true := fun st => by have h := namesIn_all (HX s l (H st)); rw [show hpN (HX s l (H st)) = 980 :: N from by show 980 :: hpN (H st) = _; rw [hN]] at h; exact h
  have x2 : ∀ st, rest? (980 :: N) (HX s l (H st)) = some [] := fun st => by have h := rest?_all (HX s l (H st)); rw [show hpN (HX s l (H st)) = 980 :: N from by show 980 :: hpN (H st) = _; rw [hN]] at h; exact h
  have x3 : ∀ st, hpIn (980 :: N) (HX s l (H st)) = true := fun st => by
    have h := hpIn_mono (nm := N) (nm' := 980 :: N) (fun f hf => List.mem_cons_of_mem _ hf) (hI st)
    simp only [hpIn, h, Bool.and_true]; rfl
  have x4 : ∀ st, part? (HX s l (H st)) (980 :: N) = some (HX s l (H st)) := fun st => by
    have h := (partN (x := [.blk 165 [fnX s l]]) hm).trans (hP st)
    simp only [part?, h]; rfl
  have x5 : ∀ st, namesIn N (H st) = true := fun st => by have h := namesIn_all (H st); rw [hN] at h; exact h
  have x6 : ∀ st, rest? N (HX s l (H st)) = some [blkX s l] := fun st => rest?_cons hm (by have h := rest?_all (H st); rw [hN] at h; exact h)
  intro left
  induction left with
  | zero =>
    intro frm x st0 hfr _ hx hfd
    have hadm := admS_p s x hx hbl hbn
    cases ha : admS s x with
    | true =>
      have hL : ([x].filter (admS s)) = [x] := by simp [ha]
      rw [show enumX s.ids.length 0 frm x = [x] from rfl, hL] at hfd ⊢
      rw [ha] at hadm
      have hfb : feedB step st0 [x] = (step st0 x).2 := by rw [feedB_cons]; simp [feedB]
      have hfe : feed step st0 [x] = (step st0 x).1 := by rw [feed_cons']; split <;> rfl
      rw [hfb, hfe]
      refine a_enter Tryz.func86 rfl rfl Tryz.ntmps86 rfl rfl rfl fun F hF => ?_
      refine a_seq ?_
      refine a_region ?_
      refine Pstep.go (st_assign rfl rfl) ?_
      refine o_nil ?_
      refine a_seq ?_
      refine a_seq ?_
      refine a_region ?_
      refine Pstep.go (st_move rfl rfl) ?_
      refine Pstep.go (st_eql rfl rfl rfl) ?_
      refine o_nil ?_
      refine a_true rfl (rfl) ?_
      refine a_seq ?_
      refine a_region ?_
      refine Pstep.go (st_loadD1 rfl rfl on124 rfl) ?_
      refine Pstep.go (st_move rfl rfl) ?_
      refine Pstep.go (st_callP (hadm) rfl rfl) ?_
      refine Pstep.go (st_not rfl rfl) ?_
      refine Pstep.go (st_move rfl rfl) ?_
      refine o_setF 17 rfl (rfl) ?_
      refine o_run rfl rfl rfl ?_
      refine Pstep.go (st_loadD1 rfl rfl on130 rfl) ?_
      refine o_run rfl rfl rfl ?_
      refine Pstep.go (st_move rfl rfl) ?_
      refine o_keep [9, 17, 18, 19] rfl ?_
      refine o_run rfl rfl rfl ?_
      refine o_yieldX rfl rfl hfd.1 N (fams980 hm) (x5 st0) (x6 st0) rfl (keep980 hm) (fun r H' ⟨e1, e2⟩ => by subst e1 e2; exact ⟨x5 _, hI _, rfl⟩) rfl fun r H' ⟨e1, e2⟩ => ?_; subst e1 e2
      refine Pstep.go (st_pickF rfl rfl rfl rfl) ?_
      refine Pstep.go (st_assign rfl rfl) ?_
      refine o_nil ?_
      refine a_ret ?_
      exact ⟨_, 980 :: N, _, res_of rfl, part_snoc (hN _) (hP _) hm, x1 _, rfl, rfl⟩
    | false =>
      have hL : ([x].filter (admS s)) = [] := by simp [ha]
      rw [show enumX s.ids.length 0 frm x = [x] from rfl, hL] at hfd ⊢
      rw [ha] at hadm
      refine a_enter Tryz.func86 rfl rfl Tryz.ntmps86 rfl rfl rfl fun F hF => ?_
      refine a_seq ?_
      refine a_region ?_
      refine Pstep.go (st_assign rfl rfl) ?_
      refine o_nil ?_
      refine a_seq ?_
      refine a_seq ?_
      refine a_region ?_
      refine Pstep.go (st_move rfl rfl) ?_
      refine Pstep.go (st_eql rfl rfl rfl) ?_
      refine o_nil ?_
      refine a_true rfl (rfl) ?_
      refine a_seq ?_
      refine a_region ?_
      refine Pstep.go (st_loadD1 rfl rfl on124 rfl) ?_
      refine Pstep.go (st_move rfl rfl) ?_
      refine Pstep.go (st_callP (hadm) rfl rfl) ?_
      refine Pstep.go (st_not rfl rfl) ?_
      refine Pstep.go (st_move rfl rfl) ?_
      refine o_setT 17 rfl (rfl) ?_
      refine o_pass rfl rfl rfl rfl ?_
      refine o_pass rfl rfl rfl rfl ?_
      refine o_pass rfl rfl rfl rfl ?_
      refine Pstep.go (st_pickT rfl rfl rfl rfl) ?_
      refine Pstep.go (st_assign rfl rfl) ?_
      refine o_nil ?_
      refine a_ret ?_
      exact ⟨_, 980 :: N, _, res_of rfl, x4 _, x1 _, rfl, rfl⟩
  | succ left ih =>
    intro frm x st0 hfr hle hx hfd
    obtain ⟨cnt, hcnt⟩ : ∃ c, s.ids.length + 1 - (left + 1) - frm = c := ⟨_, rfl⟩
    obtain ⟨pos, hpos⟩ : ∃ c, (List.range cnt).map (frm + ·) = c := ⟨_, rfl⟩
    obtain ⟨f, hf⟩ : ∃ g : Nat → List Nat, (fun i => (enumX s.ids.length left (i + 1) (x ||| 1 <<< i)).filter (admS s)) = g := ⟨_, rfl⟩
    have hLL : (enumX s.ids.length (left + 1) frm x).filter (admS s) = pos.flatMap f := by
      show ((((List.range (s.ids.length + 1 - (left + 1) - frm)).map (frm + ·)).flatMap fun i => enumX s.ids.length left (i + 1) (x ||| 1 <<< i))).filter (admS s) = _
      rw [filter_flat, hcnt, hpos, hf]
    have hpl : pos.length = cnt := by rw [← hpos]; simp
    have hpk : ∀ k, k < cnt → (pos.drop k).flatMap f = f (frm + k) ++ (pos.drop (k + 1)).flatMap f := fun k hk => by
      have hk' : k < pos.length := by rw [hpl]; exact hk
      rw [List.drop_eq_getElem_cons hk', List.flatMap_cons]
      congr 2
      subst hpos; simp
    have ih' : ∀ (k : Nat) (st : β), frm + k < 32 → Feeds Tryz.prog l encU H step st (f (frm + k)) → ACalls Tryz.prog 86 [.d (u32D (x ||| 1 <<< (frm + k))), .d (intD ((frm + k + 1 : Nat) : Int)), .d (intD (left : Int)), cS s, cY l, .ptr 980 0 0] (HX s l (H st)) fun r H' => r = .d (boolD (feedB step st (f (frm + k)))) ∧ H' = HX s l (H (feed step st (f (frm + k)))) := fun k st h1 h2 => by
      rw [← hf] at h2 ⊢
      exact ih (frm + k + 1) (x ||| 1 <<< (frm + k)) st (by omega) (by omega) (or_lt hx (shl_lt h1)) h2
    rw [hLL] at hfd ⊢
    refine a_enter Tryz.func86 rfl rfl Tryz.ntmps86 rfl rfl rfl fun F hF => ?_
    refine a_seq ?_
    refine a_region ?_
    refine Pstep.go (st_assign rfl rfl) ?_
    refine o_nil ?_
    refine a_seq ?_
    refine a_seq ?_
    refine a_region ?_
    refine Pstep.go (st_move rfl rfl) ?_
    refine Pstep.go (st_eql rfl rfl rfl) ?_
    refine o_nil ?_
    refine a_false rfl ((decide_eq_false (by omega))) ?_
    refine a_skip ?_
    refine a_seq ?_
    refine a_seq ?_
    refine a_region ?_
    refine Pstep.go (st_move rfl rfl) ?_
    refine Pstep.go (st_assign rfl rfl) ?_
    refine o_nil ?_
    refine a_block ?_
    refine a_loop (α := Nat × β) (fun q => ⟨45, [(0, .d (u32D x)), (2, .d (intD ((left + 1 : Nat) : Int))), (3, cS s), (5, .ptr 980 0 0), (10, (.d (intD ((frm + q.1 : Nat) : Int))))], HX s l (H q.2)⟩) (fun q => q.1 ≤ cnt ∧ Feeds Tryz.prog l encU H step q.2 ((pos.drop q.1).flatMap f) ∧ feed step q.2 ((pos.drop q.1).flatMap f) = feed step st0 (pos.flatMap f) ∧ feedB step q.2 ((pos.drop q.1).flatMap f) = feedB step st0 (pos.flatMap f)) (fun q => cnt - q.1) ((0, st0)) (⟨Nat.zero_le _, hfd, rfl, rfl⟩) (le_of_has ⟨rfl, rfl, rfl, rfl, rfl, trivial⟩) ?_
    rintro ⟨k, st⟩ ⟨hk0, hfk, hfin, hfb⟩
    dsimp only at hk0 hfk hfin hfb ⊢
    refine a_seq ?_
    refine a_seq ?_
    refine a_region ?_
    refine Pstep.go (st_move rfl rfl) ?_
    refine Pstep.go (st_loadD1 rfl rfl on124 rfl) ?_
    refine Pstep.go (st_nilCheckD rfl rfl) ?_
    refine Pstep.go (st_fieldF1 rfl fi170_0 rfl rfl rfl) ?_
    refine Pstep.go (st_loadD1 rfl rfl on26 rfl) ?_
    refine Pstep.go (st_lenMap rfl Tryz.underlying26 rfl) ?_
    refine Pstep.go (st_move rfl rfl) ?_
    refine Pstep.go (st_sub rfl rfl (IntWalk.i64_in _ (by omega)) rfl) ?_
    refine Pstep.go (st_leq rfl rfl rfl) ?_
    refine o_nil ?_
    refine a_if rfl (fun h31 => ?_) (fun h31 => ?_)
    · have hk1 : k < cnt := by have h := h31; omega
      refine a_skip ?_
      refine a_seq ?_
      refine a_block ?_
      refine a_seq ?_
      refine a_drawn [[], [], [], [2], [1, 2, 3], [], [5], [], [7], [0, 1, 2, 3, 4, 5, 6, 7, 8], [0, 1, 2, 3, 4, 5, 6, 7, 8, 9]] mixed rfl ?_
      refine dws ?_
      have hA := hpk k hk1
      have hfk2 := hfk
      rw [hA] at hfk2
      have h32 : frm + k < 32 := by omega
      refine d_pure [5] [980] rfl rfl (fun _ => gp_none (st_loadP rfl rfl rfl on165 rfl)) ?_
      refine d_pure [0] [] rfl rfl (fun _ => gp_none (st_move rfl rfl)) ?_
      refine d_pure [10] [] rfl rfl (fun _ => gp_none (st_move rfl rfl)) ?_
      refine d_pure [36] [] rfl rfl (fun _ => gp_none (st_shl rfl rfl (by omega) (shl1U h32) rfl)) ?_
      refine d_pure [35, 37] [] rfl rfl (fun _ => gp_none (st_bits rfl rfl rfl (orU hx (shl_lt h32)) rfl)) ?_
      refine d_pure [10] [] rfl rfl (fun _ => gp_none (st_move rfl rfl)) ?_
      refine d_pure [39] [] rfl rfl (fun _ => gp_none (st_add rfl rfl (wrapS (frm + k + 1) (by omega)) rfl)) ?_
      refine d_pure [2] [] rfl rfl (fun _ => gp_none (st_move rfl rfl)) ?_
      refine d_pure [41] [] rfl rfl (fun _ => gp_none (st_sub rfl rfl (show IntKind.i64.wrap (((left + 1 : Nat) : Int) - 1) = ((left : Nat) : Int) from by rw [show (((left + 1 : Nat) : Int) - 1) = (left : Int) by omega]; exact wrapS left (by omega)) rfl)) ?_
      refine dwc 9 rfl rfl rfl ?_
      refine dw1 10 rfl rfl ?_
      refine Estep.go (st_callVD (ih' k st h32 (Feeds_app1 step hfk2)) rfl (980 :: N) (famsEq_of fun _ _ => rfl) (x1 st) (x2 st) rfl rfl (x1 _) (x3 _) rfl rfl rfl) ?_
      rw [List.append_nil]
      refine o_nil ⟨rfl, ?_⟩
      refine dw1 11 rfl rfl ?_
      refine Pstep.go (st_not rfl rfl) ?_
      refine o_nil ⟨rfl, ?_⟩
      refine dwe ?_
      refine a_cond rfl (fun h44 => ?_) (fun h44 => ?_)
      · have hgo : feedB step st (f (frm + k)) = false := by simpa using h44
        refine a_seq ?_
        refine a_region ?_
        refine Pstep.go (st_assign rfl rfl) ?_
        refine o_nil ?_
        refine a_ret ?_
        exact ⟨_, 980 :: N, _, res_of rfl, x4 _, x1 _, retB3 (by rw [← hfb, hA, feedB_app, hgo]; rfl), by rw [← hfin, hA, feed_app2, hgo]; rfl⟩
      · have hgo : feedB step st (f (frm + k)) = true := by simpa using h44
        refine a_skip ?_
        refine a_region ?_
        refine Pstep.go (st_move rfl rfl) ?_
        refine Pstep.go (st_add rfl rfl (wrapS (frm + k + 1) (by omega)) rfl) ?_
        refine Pstep.go (st_assign rfl rfl) ?_
        refine o_nil ?_
        exact ⟨(k + 1, feed step st (f (frm + k))), ⟨by show k + 1 ≤ _; omega, Feeds_app2 step hfk2 hgo, by rw [← hfin, hA, feed_app2, hgo]; rfl, by rw [← hfb, hA, feedB_app, hgo]; rfl⟩, by show cnt - (k + 1) < cnt - k; omega, ⟨rfl, rfl, fun _ _ => Has.get (l := [(0, _), (2, _), (3, _), (5, _), (10, _)]) ⟨rfl, rfl, rfl, rfl, rfl, trivial⟩⟩⟩
    · have hk1 : ¬ k < cnt := by have h := h31; omega
      refine a_exit ?_
      refine a_seq ?_
      refine a_region ?_
      refine Pstep.go (st_assign rfl rfl) ?_
      refine o_nil ?_
      refine a_ret ?_
      exact ⟨_, 980 :: N, _, res_of rfl, x4 _, x1 _, retB3 (by rw [← hfb, List.drop_of_length_le (by omega)]; rfl), by rw [← hfin, List.drop_of_length_le (by omega)]; rfl⟩
/-- The sets in the order of their sizes. -/
def allX (s : Sma) : List Nat := (List.range (s.ids.length + 1)).flatMap fun k => (enumX s.ids.length k 0 0).filter (admS s)
set_option maxRecDepth 100000 in
theorem setsF_c (s : Sma) (hbl : ∀ b ∈ s.bl, b < 4294967296) (hbn : s.bl.length ≤ 32) (hn : s.ids.length ≤ 31) (l : Nat) (H : β → Hp) (N : List Nat) (step : β → Nat → β × Bool) (st0 : β) (hN : ∀ st, hpN (H st) = N) (hI : ∀ st, hpIn N (H st) = true) (hP : ∀ st, part? (H st) N = some (H st)) (hm : memB 980 N = false) (hm2 : memB 981 N = false)
    (hk : ∀ st, killH? 980 (H st) = some (H st)) (hk2 : ∀ st, killH? 981 (H st) = some (H st)) (hfe : Feeds Tryz.prog l encU H step st0 (allX s)) :
    ACalls Tryz.prog 85 [.d (.raw (yieldV l)), cS s] (H st0) fun r H' => r = .tup [] ∧ H' = H (feed step st0 (allX s)) := by
  have hz : ∀ st, hfam (H st) 980 = none := fun st => hfam_none (by rw [hN]; exact hm)
  have hz2 : ∀ st, hfam (H st) 981 = none := fun st => hfam_none (by rw [hN]; exact hm2)
  have hext := fun k st => ext_c s hbl hbn hn l H N step hN hI hP hm k 0 0 st (by omega)
  have x1 : ∀ st, namesIn (980 :: N) (HX s l (H st)) = true := fun st => by have h := namesIn_all (HX s l (H st)); rw [show hpN (HX s l (H st)) = 980 :: N from by show 980 :: hpN (H st) = _; rw [hN]] at h; exact h
  have x2 : ∀ st, rest? (980 :: N) (HX s l (H st)) = some [] := fun st => by have h := rest?_all (HX s l (H st)); rw [show hpN (HX s l (H st)) = 980 :: N from by show 980 :: hpN (H st) = _; rw [hN]] at h; exact h
  have x3 : ∀ st, hpIn (980 :: N) (HX s l (H st)) = true := fun st => by
    have h := hpIn_mono (nm := N) (nm' := 980 :: N) (fun f hf => List.mem_cons_of_mem _ hf) (hI st)
    simp only [hpIn, h, Bool.and_true]; rfl
  have x5 : ∀ st, namesIn N (H st) = true := fun st => by have h := namesIn_all (H st); rw [hN] at h; exact h
  have x8 : ∀ st, part? (HX s l (H st)) N = some (H st) := fun st => (partN hm).trans (hP st)
  obtain ⟨f, hf⟩ : ∃ g : Nat → List Nat, (fun k => (enumX s.ids.length k 0 0).filter (admS s)) = g := ⟨_, rfl⟩
  have hall : allX s = (List.range (s.ids.length + 1)).flatMap f := by unfold allX; rw [hf]
  have hext' : ∀ k st, k ≤ 32 → Feeds Tryz.prog l encU H step st (f k) → ACalls Tryz.prog 86 [.d (u32D 0), .d (intD ((0 : Nat) : Int)), .d (intD (k : Int)), cS s, cY l, .ptr 980 0 0] (HX s l (H st)) fun r H' => r = .d (boolD (feedB step st (f k))) ∧ H' = HX s l (H (feed step st (f k))) := fun k st h1 h2 => by
    rw [← hf] at h2 ⊢
    exact hext k st h1 (by omega) h2
  have hrk : ∀ k, k < s.ids.length + 1 → ((List.range (s.ids.length + 1)).drop k).flatMap f = f k ++ ((List.range (s.ids.length + 1)).drop (k + 1)).flatMap f := fun k hk => by
    rw [List.drop_eq_getElem_cons (by simpa using hk), List.flatMap_cons, List.getElem_range]
  rw [hall] at hfe ⊢
  refine a_enter Tryz.func85 rfl rfl Tryz.ntmps85 rfl rfl rfl fun F hF => ?_
  refine a_seq ?_
  refine a_region ?_
  refine Estep.go (st_box 981 rfl rfl rfl rfl (hk2 _) (hnewN (hz2 _)) rfl) ?_
  refine o_nil ?_
  refine a_seq ?_
  refine a_freezeB 2 981 (.raw (yieldV l)) N (hF.trans (hN st0)) rfl rfl rfl (by intro c hc; simp [D.cells] at hc; subst hc; rfl) hm2 (subB_refl N) ((partN hm2).trans (hP _)) ?_
  refine a_region ?_
  refine Estep.go (st_alloc 980 zl165 rfl (hk _) (hnewN (hz _)) rfl) ?_
  refine o_nil ?_
  refine a_seq ?_
  refine a_region ?_
  refine Pstep.go (st_makeFunc rfl rfl) ?_
  refine Estep.go (st_storeP rfl rfl rfl rfl rfl rfl rfl sz165) ?_
  refine o_nil ?_
  refine a_seq ?_
  refine a_region ?_
  refine Pstep.go (st_loadD1 rfl rfl on124 rfl) ?_
  refine Pstep.go (st_nilCheckD rfl rfl) ?_
  refine Pstep.go (st_fieldF1 rfl fi170_0 rfl rfl rfl) ?_
  refine Pstep.go (st_loadD1 rfl rfl on26 rfl) ?_
  refine Pstep.go (st_lenMap rfl Tryz.underlying26 rfl) ?_
  refine Pstep.go (st_add rfl rfl (wrapS (s.ids.length + 1) (by omega)) rfl) ?_
  refine Pstep.go (st_move rfl rfl) ?_
  refine o_nil ?_
  refine a_block ?_
  refine a_loop (α := Nat × β) (fun q => ⟨20, [(3, (.ptr 980 0 0)), (11, (.d (intD ((s.ids.length + 1 : Nat) : Int)))), (12, (.d (intD (q.1 : Int))))], HX s l (H q.2)⟩) (fun q => q.1 ≤ s.ids.length + 1 ∧ Feeds Tryz.prog l encU H step q.2 (((List.range (s.ids.length + 1)).drop q.1).flatMap f) ∧ feed step q.2 (((List.range (s.ids.length + 1)).drop q.1).flatMap f) = feed step st0 ((List.range (s.ids.length + 1)).flatMap f)) (fun q => s.ids.length + 1 - q.1) ((0, st0)) (⟨Nat.zero_le _, hfe, rfl⟩) (le_of_has ⟨rfl, rfl, rfl, trivial⟩) ?_
  rintro ⟨k, st⟩ ⟨hk0, hfk, hfin⟩
  dsimp only at hk0 hfk hfin ⊢
  refine a_seq ?_
  refine a_region ?_
  refine Pstep.go (st_lss rfl rfl rfl) ?_
  refine o_nil ?_
  refine a_seq ?_
  refine a_if rfl (fun h13 => ?_) (fun h13 => ?_)
  · have hk1 : k < s.ids.length + 1 := by have h := h13; omega
    refine a_skip ?_
    refine a_seq ?_
    refine a_block ?_
    refine a_seq ?_
    refine a_region ?_
    refine Pstep.go (st_move rfl rfl) ?_
    refine Pstep.go (st_assign rfl rfl) ?_
    refine o_nil ?_
    refine a_seq ?_
    refine a_region ?_
    have hA := hrk k hk1
    have hfk2 := hfk
    rw [hA] at hfk2
    refine Pstep.go (st_loadP rfl rfl rfl on165 rfl) ?_
    refine Pstep.go (st_move rfl rfl) ?_
    refine Estep.go (st_callVD (hext' k st (by omega) (Feeds_app1 step hfk2)) rfl (980 :: N) (famsEq_of fun _ _ => rfl) (x1 st) (x2 st) rfl rfl (x1 _) (x3 _) rfl rfl rfl) ?_
    rw [List.append_nil]
    refine Pstep.go (st_not rfl rfl) ?_
    refine o_nil ?_
    refine a_cond rfl (fun h18 => ?_) (fun h18 => ?_)
    · have hgo : feedB step st (f k) = false := by simpa using h18
      refine a_ret ?_
      exact ⟨_, N, _, res_of rfl, x8 _, x5 _, rfl, by rw [← hfin, hA, feed_app2, hgo]; rfl⟩
    · have hgo : feedB step st (f k) = true := by simpa using h18
      refine a_skip ?_
      refine a_region ?_
      refine Pstep.go (st_add rfl rfl (wrapS (k + 1) (by omega)) rfl) ?_
      refine Pstep.go (st_move rfl rfl) ?_
      refine o_nil ?_
      exact ⟨(k + 1, feed step st (f k)), ⟨by show k + 1 ≤ _; omega, Feeds_app2 step hfk2 hgo, by rw [← hfin, hA, feed_app2, hgo]; rfl⟩, by show s.ids.length + 1 - (k + 1) < s.ids.length + 1 - k; omega, ⟨rfl, rfl, fun _ _ => Has.get (l := [(3, _), (11, _), (12, _)]) ⟨rfl, rfl, rfl, trivial⟩⟩⟩
  · refine a_exit ?_
    exact ⟨_, N, _, res_of rfl, x8 _, x5 _, rfl, by rw [← hfin, List.drop_of_length_le (by have h := h13; simp; omega)]; rfl⟩
end
theorem sets_c (s : Sma) : ACalls Tryz.prog 60 [.d (.ptr (smaD s))] [] fun r H' => r = .fn 85 [cS s] ∧ H' = [] := by
  refine a_enter Tryz.func60 rfl rfl Tryz.ntmps60 rfl rfl rfl fun F hF => ?_
  refine a_seq ?_
  refine a_region ?_
  refine Estep.go (st_box 1 rfl rfl rfl rfl rfl rfl rfl) ?_
  refine Pstep.go (st_assign rfl rfl) ?_
  refine o_nil ?_
  refine a_seq ?_
  refine a_region ?_
  refine o_freezeB 1 1 (.ptr (smaD s)) [] hF rfl rfl rfl (by intro c hc; simp [D.cells] at hc; subst hc; rfl) rfl rfl rfl ?_
  refine Pstep.go (st_makeFunc rfl rfl) ?_
  refine Pstep.go (st_assign rfl rfl) ?_
  refine o_nil ?_
  refine a_ret ?_
  exact ⟨_, [], [], res_of rfl, rfl, rfl, rfl, rfl⟩
end Go.Proofs.YtnamabifclidmaaGreat
/- Layer 29: binary search in a rising list of ints. -/
namespace Go.Proofs.YtnamabifclidmaaGreat
open Go.RowKit

theorem bs_lt {l : List Int} {x : Int} (hs : l.Pairwise (· < ·)) (hx : x ∈ l) {h : Nat} (hh : h < l.length) : l[h] < x ↔ h < l.idxOf x := by
  have hm := List.idxOf_lt_length_of_mem hx
  have hg : l[l.idxOf x] = x := List.getElem_idxOf hm
  have hp := List.pairwise_iff_getElem.1 hs
  constructor
  · intro hlt
    rcases Nat.lt_trichotomy h (l.idxOf x) with h1 | h1 | h1
    · exact h1
    · exfalso
      have : l[h] = x := by rw [← hg]; congr 1
      omega
    · have := hp _ _ hm hh h1
      rw [hg] at this; omega
  · intro hlt
    have := hp _ _ hh hm hlt
    rw [hg] at this; exact this
theorem halfU (n : Nat) : ((n : Nat) : Int).fdiv (2 ^ (min (1 : Int).toNat IntKind.u64.bits)) = ((n / 2 : Nat) : Int) := by
  have h : min (1 : Int).toNat IntKind.u64.bits = 1 := by decide
  rw [h, Int.fdiv_eq_ediv_of_nonneg _ (by decide)]; omega
theorem retBS {i m : Nat} (h : i = m) : AV.d (.tup [intD (i : Int), .raw (.bool true)]) = .d (.tup [intD (m : Int), boolD true]) := by rw [h]
set_option maxRecDepth 100000 in
theorem bsearch_p (l : List Int) (x : Int) (hs : l.Pairwise (· < ·)) (hx : x ∈ l) (hl : l.length ≤ 1000000) : PCalls Tryz.prog 112 [.d (.sl none (l.map intD)), .d (intD x)] (.tup [intD (l.idxOf x : Nat), boolD true]) := by
  have hm := List.idxOf_lt_length_of_mem hx
  have hg : l[l.idxOf x] = x := List.getElem_idxOf hm
  have hbl := fun {h : Nat} (hh : h < l.length) => bs_lt hs hx hh
  obtain ⟨m, hmE⟩ : ∃ m, l.idxOf x = m := ⟨_, rfl⟩
  simp only [hmE] at hm hg hbl ⊢
  refine a_enter Tryz.func112 rfl rfl Tryz.ntmps112 rfl rfl rfl fun F hF => ?_
  refine a_seq ?_
  refine a_region ?_
  refine Pstep.go (st_assign rfl rfl) ?_
  refine Pstep.go (st_assign rfl rfl) ?_
  refine o_nil ?_
  refine a_seq ?_
  refine a_region ?_
  refine Pstep.go (st_move rfl rfl) ?_
  first | refine Pstep.go (st_lenMap rfl Tryz.underlying26 rfl) ?_ | refine Pstep.go (st_lenD rfl rfl Tryz.underlying26 rfl) ?_ | refine Pstep.go (st_lenO rfl Tryz.underlying26 rfl) ?_ | refine Pstep.go (st_lenSL rfl Tryz.underlying26 rfl) ?_ | refine Pstep.go (st_lenS rfl Tryz.underlying26 rfl) ?_
  refine Pstep.go (st_assign rfl rfl) ?_
  refine o_nil ?_
  refine a_seq ?_
  refine a_region ?_
  refine Pstep.go (st_move rfl rfl) ?_
  refine Pstep.go (st_assign rfl rfl) ?_
  refine Pstep.go (st_assign rfl rfl) ?_
  refine o_nil ?_
  refine a_seq ?_
  refine a_block ?_
  refine a_loop (α := Nat × Nat) (fun q => ⟨54, [(0, .d (.sl none (l.map intD))), (1, .d (intD x)), (6, (.d (intD (l.length : Int)))), (7, (.d (intD (q.1 : Int)))), (8, (.d (intD (q.2 : Int))))], []⟩) (fun q => q.1 ≤ m ∧ m ≤ q.2 ∧ q.2 ≤ l.length) (fun q => q.2 - q.1) ((0, l.length)) (⟨Nat.zero_le _, Nat.le_of_lt hm, Nat.le_refl _⟩) (le_of_has ⟨rfl, rfl, rfl, rfl, rfl, trivial⟩) ?_
  rintro ⟨i, j⟩ ⟨hi, hj, hjl⟩
  dsimp only at hi hj hjl ⊢
  refine a_seq ?_
  refine a_seq ?_
  refine a_region ?_
  refine Pstep.go (st_move rfl rfl) ?_
  refine Pstep.go (st_move rfl rfl) ?_
  first | refine Pstep.go (st_lss rfl rfl rfl) ?_ | refine Pstep.go (st_lssS rfl rfl rfl) ?_
  refine o_nil ?_
  first | refine a_if rfl (fun h15 => ?_) (fun h15 => ?_) | refine a_cond rfl (fun h15 => ?_) (fun h15 => ?_)
  · have hij : i < j := lt_cast h15
    refine a_skip ?_
    refine a_block ?_
    refine a_seq ?_
    refine a_region ?_
    refine Pstep.go (st_move rfl rfl) ?_
    refine Pstep.go (st_move rfl rfl) ?_
    have hh : (i + j) / 2 < l.length := by omega
    have hcU : IntKind.u64.wrap ((i : Int) + (j : Int)) = ((i + j : Nat) : Int) := (IntWalk.u64_in _ (by omega)).trans (Int.natCast_add i j).symm
    refine Pstep.go (st_add rfl rfl (IntWalk.i64_in _ (by omega)) rfl) ?_
    refine Pstep.go (st_conv rfl Tryz.underlying3 Tryz.underlying190 (hcU) rfl) ?_
    refine Pstep.go (st_shr rfl rfl (by omega) (halfU (i + j)) rfl) ?_
    refine Pstep.go (st_conv rfl Tryz.underlying190 Tryz.underlying3 (wrapS ((i + j) / 2) (by omega)) rfl) ?_
    refine Pstep.go (st_assign rfl rfl) ?_
    refine o_nil ?_
    refine a_seq ?_
    refine a_region ?_
    refine Pstep.go (st_move rfl rfl) ?_
    refine Pstep.go (st_move rfl rfl) ?_
    first | refine Pstep.go (st_indexD ((i + j) / 2) rfl rfl (rfl) (getm hh) Tryz.underlying26 rfl sz3 rfl) ?_ | refine Pstep.go (st_indexO ((i + j) / 2) rfl rfl (rfl) (getm hh) rfl Tryz.underlying26 sz3 rfl) ?_
    first | refine Pstep.go (st_loadD1 rfl rfl on3 rfl) ?_ | refine Pstep.go (st_loadP rfl rfl rfl on3 rfl) ?_ | refine Pstep.go (st_loadR rfl rfl (rfl) rfl on3 rfl) ?_
    refine Pstep.go (st_move rfl rfl) ?_
    refine Pstep.go (st_callP (less_p l[(i + j) / 2] x) rfl rfl) ?_
    refine o_nil ?_
    first | refine a_if rfl (fun h27 => ?_) (fun h27 => ?_) | refine a_cond rfl (fun h27 => ?_) (fun h27 => ?_)
    · refine a_region ?_
      refine Pstep.go (st_move rfl rfl) ?_
      refine Pstep.go (st_add rfl rfl (wrapS ((i + j) / 2 + 1) (by omega)) rfl) ?_
      refine Pstep.go (st_assign rfl rfl) ?_
      refine o_nil ?_
      exact ⟨((i + j) / 2 + 1, j), ⟨by show (i + j) / 2 + 1 ≤ m; have h := (hbl hh).1 h27; omega, hj, hjl⟩, by show j - ((i + j) / 2 + 1) < j - i; omega, ⟨rfl, rfl, fun _ _ => Has.get (l := [(0, _), (1, _), (6, _), (7, _), (8, _)]) ⟨rfl, rfl, rfl, rfl, rfl, trivial⟩⟩⟩
    · refine a_region ?_
      refine Pstep.go (st_move rfl rfl) ?_
      refine Pstep.go (st_assign rfl rfl) ?_
      refine o_nil ?_
      exact ⟨(i, (i + j) / 2), ⟨hi, by show m ≤ (i + j) / 2; exact Nat.le_of_not_lt fun h => h27 ((hbl hh).2 h), by show (i + j) / 2 ≤ l.length; omega⟩, by show (i + j) / 2 - i < j - i; omega, ⟨rfl, rfl, fun _ _ => Has.get (l := [(0, _), (1, _), (6, _), (7, _), (8, _)]) ⟨rfl, rfl, rfl, rfl, rfl, trivial⟩⟩⟩
  · refine a_exit ?_
    refine a_seq ?_
    have him : i = m := by have h := h15; omega
    have hi1 : i < l.length := by omega
    have hgi : l[i] = x := by rw [← hg]; congr 1
    refine a_region ?_
    refine Pstep.go (st_move rfl rfl) ?_
    refine Pstep.go (st_move rfl rfl) ?_
    refine Pstep.go (st_move rfl rfl) ?_
    first | refine Pstep.go (st_lss rfl rfl rfl) ?_ | refine Pstep.go (st_lssS rfl rfl rfl) ?_
    refine Pstep.go (st_move rfl rfl) ?_
    refine o_setT 35 rfl ((decide_eq_true (by omega))) ?_
    refine o_run rfl rfl rfl ?_
    refine Pstep.go (st_move rfl rfl) ?_
    refine o_run rfl rfl rfl ?_
    refine Pstep.go (st_move rfl rfl) ?_
    refine o_run rfl rfl rfl ?_
    first | refine Pstep.go (st_indexD (i) rfl rfl (rfl) (getm hi1) Tryz.underlying26 rfl sz3 rfl) ?_ | refine Pstep.go (st_indexO (i) rfl rfl (rfl) (getm hi1) rfl Tryz.underlying26 sz3 rfl) ?_
    refine o_run rfl rfl rfl ?_
    first | refine Pstep.go (st_loadD1 rfl rfl on3 rfl) ?_ | refine Pstep.go (st_loadP rfl rfl rfl on3 rfl) ?_ | refine Pstep.go (st_loadR rfl rfl (rfl) rfl on3 rfl) ?_
    refine o_run rfl rfl rfl ?_
    refine Pstep.go (st_move rfl rfl) ?_
    refine o_run rfl rfl rfl ?_
    first | refine Pstep.go (st_eql rfl rfl rfl) ?_ | refine Pstep.go (st_eqlSL rfl rfl rfl) ?_ | refine Pstep.go (st_eqlS rfl rfl rfl) ?_ | refine Pstep.go (st_eqlB Tryz.underlying3 rfl rfl rfl) ?_ | refine Pstep.go (st_eqlP Tryz.underlying3 rfl rfl rfl) ?_ | refine Pstep.go (st_eqlN Tryz.underlying3 rfl rfl) ?_ | refine Pstep.go (st_eqlF Tryz.underlying3 rfl rfl rfl) ?_ | refine Pstep.go (st_eqlFN Tryz.underlying3 rfl rfl) ?_
    refine o_run rfl rfl rfl ?_
    refine Pstep.go (st_move rfl rfl) ?_
    refine o_setT 42 rfl ((decide_eq_true hgi)) ?_
    refine o_pass rfl rfl rfl rfl ?_
    refine o_pass rfl rfl rfl rfl ?_
    refine o_pass rfl rfl rfl rfl ?_
    refine o_pass rfl rfl rfl rfl ?_
    refine o_pass rfl rfl rfl rfl ?_
    refine o_pass rfl rfl rfl rfl ?_
    refine o_passU rfl rfl rfl ?_
    refine o_passU rfl rfl rfl ?_
    refine o_pass rfl rfl rfl rfl ?_
    refine o_run rfl rfl rfl ?_
    refine Pstep.go (st_pickT rfl rfl rfl rfl) ?_
    refine Pstep.go (st_pickT rfl rfl rfl rfl) ?_
    refine Pstep.go (st_assign rfl rfl) ?_
    refine Pstep.go (st_assign rfl rfl) ?_
    refine o_nil ?_
    refine a_ret ?_
    exact ⟨_, [], [], res_of rfl, rfl, rfl, retBS him, rfl⟩
end Go.Proofs.YtnamabifclidmaaGreat
/- Layer 29: a problem with few items in its small form. -/
namespace Go.Proofs.YtnamabifclidmaaGreat
open Go.RowKit

def smI (p : Prb) : List Int := sortI (ordI_ids p)
theorem ordI_perm {p : Prb} (hp : prbE p = 0) : (ordI_ids p).Perm (p.it.map Itm.id) := by
  unfold ordI_ids ordP; rw [if_pos hp]; exact (sortO_perm p.it).map _
theorem smI_perm {p : Prb} (hp : prbE p = 0) : (smI p).Perm (p.it.map Itm.id) := (sortI_perm _).trans (ordI_perm hp)
theorem smI_mem {p : Prb} (hp : prbE p = 0) (x : Int) : x ∈ smI p ↔ x ∈ p.it.map Itm.id := (smI_perm hp).mem_iff
theorem smI_len {p : Prb} (hp : prbE p = 0) : (smI p).length = p.it.length := by rw [(smI_perm hp).length_eq, List.length_map]
theorem smI_lt {p : Prb} (hp : prbE p = 0) : (smI p).Pairwise (· < ·) := by
  have hn : (smI p).Nodup := (smI_perm hp).nodup_iff.2 (items_ids (prb_ok hp).2.1)
  have hs : (smI p).Pairwise (· ≤ ·) := sortI_sorted _
  rw [List.Nodup] at hn
  exact (hs.and hn).imp fun {a b} h => by have h1 := h.1; have h2 := h.2; omega
theorem req_in {p : Prb} (hp : prbE p = 0) {i : Int} (hi : i ∈ p.it.map Itm.id) {b : Bkd} (hb : b ∈ req p i) : b.m ∈ smI p := by
  rw [smI_mem hp]
  unfold req at hb
  rcases List.mem_append.1 hb with h | h
  · unfold reqA at h
    obtain ⟨x, hx, rfl⟩ := List.mem_map.1 h
    have hx' := (sortI_perm _).mem_iff.1 hx
    obtain ⟨hk, _, he, _⟩ := itmOf_at hi
    rw [he] at hx'
    have hf := fst0_all (prb_ok hp).2.2 _ (List.mem_map.2 ⟨_, List.getElem_mem hk, rfl⟩)
    unfold fErr at hf
    split at hf
    · cases hf
    · rename_i hn
      show x ∈ _
      have hn2 : ¬ notIn (p.it.map Itm.id) x = true := fun h => hn (List.any_eq_true.2 ⟨x, hx', h⟩)
      simpa [notIn] using hn2
  · obtain ⟨y, hy, h⟩ := List.mem_flatMap.1 h
    unfold reqL at h
    obtain ⟨z, hz, rfl⟩ := List.mem_map.1 h
    have hz' : z ∈ y.q := List.mem_of_mem_take hz
    unfold linL at hy
    obtain ⟨r, _, rfl⟩ := List.mem_map.1 hy
    have hz2 : z ∈ qIds (ordP p) r.r := hz'
    unfold qIds at hz2
    obtain ⟨o, ho, rfl⟩ := List.mem_map.1 hz2
    exact (ordI_perm hp).mem_iff.1 (List.mem_map.2 ⟨o, (List.mem_filter.1 ho).1, rfl⟩)
def bitsO (ids : List Int) (l : List Bkd) : Nat := l.foldl (fun a b => a ||| 1 <<< ids.idxOf b.m) 0
theorem bits_snoc (ids : List Int) {l : List Bkd} {k : Nat} (hk : k < l.length) : bitsO ids (l.take (k + 1)) = bitsO ids (l.take k) ||| 1 <<< ids.idxOf l[k].m := by
  unfold bitsO; rw [List.take_succ_eq_append_getElem hk, List.foldl_append]; rfl
theorem bits_lt {ids : List Int} (hn : ids.length ≤ 31) (l : List Bkd) : bitsO ids l < 4294967296 := by
  have key : ∀ (l : List Bkd) (a : Nat), a < 4294967296 → l.foldl (fun a b => a ||| 1 <<< ids.idxOf b.m) a < 4294967296 := by
    intro l
    induction l with
    | nil => intro a h; exact h
    | cons b l ih =>
      intro a h
      rw [List.foldl_cons]
      exact ih _ (or_lt h (shl_lt (by have : ids.idxOf b.m ≤ ids.length := List.idxOf_le_length; omega)))
  exact key l 0 (by omega)
def blOf (p : Prb) (i : Int) : Nat := bitsO (smI p) (req p i)
def dlOf (p : Prb) (x : Lin) (i : Int) : Int := dltE (itmOf p i) x.r
def rwOf (p : Prb) (x : Lin) : List Int := (smI p).map (dlOf p x)
def smlOf (p : Prb) : Sma := ⟨smI p, (smI p).map (blOf p), (linL p).map (rwOf p), (linL p).map Lin.n⟩
theorem blkF_nil (l : List Bkd) : blkF (inM []) l = l := List.filter_eq_self.2 fun _ _ => rfl
abbrev lineC (x : Lin) : List AV := [.d (intD x.r.k), .d (strD x.r.acc.o), .d (intD x.r.acc.k), .d (strD x.r.acc.a), .d (strD x.r.f), .d (strD x.r.t), .d (intD x.n), .d (.sl none (x.q.map intD))]
set_option maxRecDepth 100000 in
theorem reduce_c (p : Prb) (hp : prbE p = 0) (hb : PrbB p) (h1 : p.it.length ≤ 20) (h2 : p.ro.length ≤ 1000) : ACalls Tryz.prog 84 [.ptr 10 0 0] (HA p) fun r H' => r = .d (.ptr (smaD (smlOf p))) ∧ H' = HA p := by
  have hLl := linL_len p
  have hIl := smI_len hp
  have hOl : (ordI_ids p).length = p.it.length := by rw [(ordI_perm hp).length_eq, List.length_map]
  have hbk : ∀ mv i, ACalls Tryz.prog 74 [.ptr 10 0 0, mapV mv, .d (intD i)] (HA p ++ [(21, [.map (some ([], 0)) []]), (31, [.addr 21 0 (.map (some mv))])]) fun r H' => r = .d (.sl none ((req p i).map bkdD)) ∧ H' = HA p ++ [(21, [.map (some ([], 0)) []]), (31, [.addr 21 0 (.map (some mv))])] := fun mv i => by
    have h := (blockers_c p mv (some ([], 0)) [] i hb (by omega) h2).by [(12, 21), (13, 31)] rfl
    rw [blkF_nil] at h
    exact h
  have hso := sortedZ_p (ordI_ids p) (by omega)
  rw [show sortI (ordI_ids p) = smI p from rfl] at hso
  refine a_enter Tryz.func84 rfl rfl Tryz.ntmps84 rfl rfl rfl fun F hF => ?_
  refine a_seq ?_
  refine a_region ?_
  refine Pstep.go (st_assign rfl rfl) ?_
  refine o_nil ?_
  refine a_seq ?_
  refine a_region ?_
  refine Pstep.go (st_move rfl rfl) ?_
  refine Pstep.go (st_nilCheckP rfl rfl) ?_
  refine Pstep.go (st_fieldP rfl fi154_1 rfl rfl rfl) ?_
  refine Pstep.go (st_loadP rfl rfl rfl on26 rfl) ?_
  refine Estep.go (st_callD (valuesZ_c (ordI_ids p)) rfl [] trivial rfl rfl rfl rfl rfl rfl rfl rfl rfl) ?_
  refine Pstep.go (st_callP (hso) rfl rfl) ?_
  refine Pstep.go (st_build zl170 pl170 rfl rfl rfl) ?_
  refine Estep.go (st_box 20 rfl rfl rfl rfl rfl rfl rfl) ?_
  refine Pstep.go (st_assign rfl rfl) ?_
  refine o_nil ?_
  refine a_seq ?_
  refine a_seq ?_
  refine a_adoptC 20 0 1 901 sl166 rfl rfl rfl rfl rfl rfl rfl ?_
  refine a_adoptC 20 0 2 902 sl167 rfl rfl rfl rfl rfl rfl rfl ?_
  refine a_adoptC 20 0 3 903 sl168 rfl rfl rfl rfl rfl rfl rfl ?_
  refine a_region ?_
  refine Pstep.go (st_move rfl rfl) ?_
  refine Pstep.go (st_nilCheckP rfl rfl) ?_
  refine Pstep.go (st_fieldP rfl fi170_0 rfl rfl rfl) ?_
  refine Pstep.go (st_loadP rfl rfl rfl on26 rfl) ?_
  refine Pstep.go (st_lenMap rfl Tryz.underlying26 rfl) ?_
  refine Pstep.go (st_move rfl rfl) ?_
  refine o_nil ?_
  refine a_block ?_
  refine a_loopP (α := Nat × List Nat) (fun q => ⟨122, [(0, .ptr 10 0 0), (3, (.ptr 20 0 0)), (27, (.d (.sl none ((smI p).map intD)))), (28, (.d (intD ((smI p).length : Int)))), (29, (.d (intD (q.1 : Int))))], HA p ++ [(20, [.blk 170 [.d (.sl none ((smI p).map intD)), .own 901 0 q.2.length, .own 902 0 0, .own 903 0 0]]), (901, [.rowD 65 1 (q.2.map u32D)]), (902, [.rowD 168 1 []]), (903, [.rowD 2 1 []])]⟩) (fun q => q.1 ≤ (smI p).length ∧ q.2 = ((smI p).take q.1).map (blOf p)) (fun q => (smI p).length - q.1) ((0, [])) (⟨Nat.zero_le _, rfl⟩) (lep_of hF [10, 11, 20, 901, 902, 903] rfl rfl ⟨rfl, rfl, rfl, rfl, rfl, trivial⟩) ?_
  rintro ⟨k, BL⟩ ⟨hk0, hA⟩
  dsimp only at hk0 hA ⊢
  refine a_seq ?_
  refine a_region ?_
  refine Pstep.go (st_lss rfl rfl rfl) ?_
  refine o_nil ?_
  refine a_seq ?_
  refine a_if rfl (fun h30 => ?_) (fun h30 => ?_)
  · have hk1 : k < (smI p).length := lt_cast h30
    refine a_skip ?_
    refine a_seq ?_
    refine a_block ?_
    refine a_seq ?_
    refine a_region ?_
    refine Pstep.go (st_indexD (k) rfl rfl (rfl) (getm hk1) Tryz.underlying26 rfl sz3 rfl) ?_
    refine Pstep.go (st_loadD1 rfl rfl on3 rfl) ?_
    refine Pstep.go (st_assign rfl rfl) ?_
    refine o_nil ?_
    refine a_seq ?_
    refine a_region ?_
    refine Pstep.go (st_assign rfl rfl) ?_
    refine o_nil ?_
    refine a_seq ?_
    refine a_seq ?_
    refine a_region ?_
    refine Pstep.go (st_move rfl rfl) ?_
    refine Estep.go (st_makeMap 21 rfl rfl rfl rfl) ?_
    refine o_ghostM 31 21 0 rfl rfl rfl rfl rfl fun mv => ?_
    refine o_toRaw 34 31 0 (.inl rfl) rfl ?_
    refine Pstep.go (st_move rfl rfl) ?_
    refine Estep.go (st_callD (hbk mv (smI p)[k]) rfl [10, 11, 21, 31] ⟨rfl, rfl, rfl, rfl, trivial⟩ rfl rfl rfl rfl rfl rfl rfl rfl rfl) ?_
    refine Pstep.go (st_lenMap rfl Tryz.underlying39 rfl) ?_
    refine Pstep.go (st_move rfl rfl) ?_
    refine o_nil ?_
    refine a_block ?_
    refine a_loopP (α := Nat × Nat) (fun q => ⟨122, [(0, .ptr 10 0 0), (3, (.ptr 20 0 0)), (6, (.d (u32D q.2))), (27, (.d (.sl none ((smI p).map intD)))), (28, (.d (intD ((smI p).length : Int)))), (29, (.d (intD (k : Int)))), (36, (.d (.sl none ((req p (smI p)[k]).map bkdD)))), (37, (.d (intD ((req p (smI p)[k]).length : Int)))), (38, (.d (intD (q.1 : Int))))], HA p ++ [(20, [.blk 170 [.d (.sl none ((smI p).map intD)), .own 901 0 BL.length, .own 902 0 0, .own 903 0 0]]), (901, [.rowD 65 1 (BL.map u32D)]), (902, [.rowD 168 1 []]), (903, [.rowD 2 1 []])]⟩) (fun q => q.1 ≤ (req p (smI p)[k]).length ∧ q.2 = bitsO (smI p) ((req p (smI p)[k]).take q.1)) (fun q => (req p (smI p)[k]).length - q.1) ((0, 0)) (⟨Nat.zero_le _, rfl⟩) (lep_of hF [10, 11, 20, 901, 902, 903] rfl rfl ⟨rfl, rfl, rfl, rfl, rfl, rfl, rfl, rfl, rfl, trivial⟩) ?_
    rintro ⟨m, bits⟩ ⟨hm0, hB⟩
    dsimp only at hm0 hB ⊢
    refine a_seq ?_
    have hrl := req_len hb (by omega : p.it.length ≤ 1000) h2 (smI p)[k]
    have hri : ∀ b ∈ req p (smI p)[k], b.m ∈ smI p := fun b hb => req_in hp ((smI_mem hp _).1 (List.getElem_mem hk1)) hb
    have hblo : blOf p (smI p)[k] = bitsO (smI p) (req p (smI p)[k]) := rfl
    refine a_region ?_
    refine Pstep.go (st_lss rfl rfl rfl) ?_
    refine o_nil ?_
    refine a_seq ?_
    refine a_if rfl (fun h39 => ?_) (fun h39 => ?_)
    · have hm1 : m < (req p (smI p)[k]).length := lt_cast h39
      refine a_skip ?_
      refine a_seq ?_
      refine a_block ?_
      refine a_seq ?_
      refine a_region ?_
      refine Pstep.go (st_indexD (m) rfl rfl (rfl) (getm hm1) Tryz.underlying39 rfl sz49 rfl) ?_
      refine Pstep.go (st_loadDS rfl rfl rw49 rfl) ?_
      refine Estep.go (st_alloc 22 zl49 rfl rfl rfl rfl) ?_
      refine Estep.go (st_storeP rfl rfl rfl rfl rfl rfl rfl sz49) ?_
      refine o_nil ?_
      refine a_seq ?_
      refine a_drawn [[], [0], [0, 1], [0, 1, 2], [], [4], [0, 1, 2, 3, 4, 5], [0, 1, 2, 3, 4, 5, 6], [0, 1, 2, 3, 4, 5, 6, 7], [0, 1, 2, 3, 4, 5, 6, 7], [0, 1, 2, 3, 4, 5, 6, 7, 8], [0, 1, 2, 3, 4, 5, 6, 7, 8, 9, 10]] mixed rfl ?_
      refine dws ?_
      refine d_pure [3] [] rfl rfl (fun _ => gp_none (st_move rfl rfl)) ?_
      refine d_pure [43] [] rfl rfl (fun _ => gp_none (st_nilCheckP rfl rfl)) ?_
      refine d_pure [44] [] rfl rfl (fun _ => gp_none (st_fieldP rfl fi170_0 rfl rfl rfl)) ?_
      refine d_pure [45] [20] rfl rfl (fun _ => gp_none (st_loadP rfl rfl rfl on26 rfl)) ?_
      refine d_pure [8] [] rfl rfl (fun _ => gp_none (st_fieldP rfl fi49_1 rfl rfl rfl)) ?_
      refine d_pure [47] [22] rfl rfl (fun _ => gp_none (st_loadP rfl rfl rfl on3 rfl)) ?_
      refine dwc 6 rfl rfl rfl ?_
      refine dw1 7 rfl rfl ?_
      refine Pstep.go (st_callP (bsearch_p (smI p) (req p (smI p)[k])[m].m (smI_lt hp) (hri _ (List.getElem_mem hm1)) (by omega)) rfl rfl) ?_
      refine o_nil ⟨rfl, ?_⟩
      refine dw1 8 rfl rfl ?_
      refine Pstep.go (st_move rfl rfl) ?_
      refine o_nil ⟨rfl, ?_⟩
      refine dws ?_
      refine d_pure [42] [] rfl rfl (fun _ => gp_none (st_extractD rfl rfl rfl)) ?_
      refine d_pure [42] [] rfl rfl (fun _ => gp_none (st_extractD rfl rfl rfl)) ?_
      refine d_pure [50] [] rfl rfl (fun _ => gp_none (st_assign rfl rfl)) ?_
      refine dwc 11 rfl rfl rfl ?_
      refine dw1 12 rfl rfl ?_
      refine Pstep.go (st_assign rfl rfl) ?_
      refine o_nil ⟨rfl, ?_⟩
      refine dwe ?_
      refine a_region ?_
      refine Pstep.go (st_move rfl rfl) ?_
      refine Pstep.go (st_move rfl rfl) ?_
      have hix := List.idxOf_lt_length_of_mem (hri _ (List.getElem_mem hm1))
      refine Pstep.go (st_shl rfl rfl (by omega) (shl1U (by omega)) rfl) ?_
      refine Pstep.go (st_bits rfl rfl rfl (orU (by rw [hB]; exact bits_lt (by omega) _) (shl_lt (by omega))) rfl) ?_
      refine Pstep.go (st_assign rfl rfl) ?_
      refine o_nil ?_
      refine a_region ?_
      refine Pstep.go (st_add rfl rfl (wrapS (m + 1) (by omega)) rfl) ?_
      refine Pstep.go (st_move rfl rfl) ?_
      refine o_nil ?_
      exact ⟨(m + 1, bits ||| 1 <<< (smI p).idxOf (req p (smI p)[k])[m].m), ⟨by show m + 1 ≤ _; omega, by show bits ||| 1 <<< (smI p).idxOf (req p (smI p)[k])[m].m = bitsO (smI p) ((req p (smI p)[k]).take (m + 1)); rw [bits_snoc (smI p) hm1, hB]⟩, by show (req p (smI p)[k]).length - (m + 1) < (req p (smI p)[k]).length - m; omega, lep_of hF [10, 11, 20, 901, 902, 903] rfl (rfl) ⟨rfl, rfl, rfl, rfl, rfl, rfl, rfl, rfl, rfl, trivial⟩⟩
    · have hfin : bits = blOf p (smI p)[k] := by rw [hblo, hB, List.take_of_length_le (by have h := h39; omega)]
      refine a_exit ?_
      refine a_region ?_
      refine Pstep.go (st_move rfl rfl) ?_
      refine Pstep.go (st_move rfl rfl) ?_
      refine Pstep.go (st_nilCheckP rfl rfl) ?_
      refine Pstep.go (st_fieldP rfl fi170_1 rfl rfl rfl) ?_
      have hBl : BL.length ≤ 20 := by rw [hA, List.length_map, List.length_take]; omega
      refine Pstep.go (st_loadP rfl rfl rfl on166 rfl) ?_
      refine Pstep.go (st_move rfl rfl) ?_
      refine Estep.go (st_buildSlice 40 sl166 rfl rfl rfl rfl rfl rfl rfl rfl) ?_
      refine Estep.go (st_appM (BL) ([bits]) rfl rfl rfl rfl rfl rfl rfl rfl sl166 (by simp only [List.length_singleton]; omega) rfl rfl rfl rfl) ?_
      refine Pstep.go (st_nilCheckP rfl rfl) ?_
      refine Pstep.go (st_fieldP rfl fi170_1 rfl rfl rfl) ?_
      refine Estep.go (st_storeP rfl rfl rfl rfl rfl rfl rfl sz166) ?_
      refine o_nil ?_
      refine a_region ?_
      refine Pstep.go (st_add rfl rfl (wrapS (k + 1) (by omega)) rfl) ?_
      refine Pstep.go (st_move rfl rfl) ?_
      refine o_nil ?_
      exact ⟨(k + 1, BL ++ [bits]), ⟨by show k + 1 ≤ _; omega, by show BL ++ [bits] = ((smI p).take (k + 1)).map (blOf p); rw [tk_map hk1, hA, hfin]⟩, by show (smI p).length - (k + 1) < (smI p).length - k; omega, lep_of hF [10, 11, 20, 901, 902, 903] rfl (rfl) ⟨rfl, rfl, rfl, rfl, rfl, trivial⟩⟩
  · refine a_exit ?_
    refine a_seq ?_
    refine a_seq ?_
    have hBL : BL = (smI p).map (blOf p) := by rw [hA, List.take_of_length_le (by have h := h30; omega)]
    refine a_freezeC (ys := BL.map u32D) 20 0 1 901 rfl rfl rfl (Nat.le_of_eq (by simp)) (List.take_of_length_le (by simp)) rfl rfl rfl rfl rfl rfl ?_
    refine a_region ?_
    refine Pstep.go (st_move rfl rfl) ?_
    refine Pstep.go (st_nilCheckP rfl rfl) ?_
    refine Pstep.go (st_fieldP rfl fi154_2 rfl rfl rfl) ?_
    refine Pstep.go (st_loadP rfl rfl rfl on152 rfl) ?_
    refine Pstep.go (st_lenMap rfl Tryz.underlying152 rfl) ?_
    refine Pstep.go (st_move rfl rfl) ?_
    refine o_nil ?_
    refine a_block ?_
    refine a_loopP (α := Nat × List (List Int) × List Int) (fun q => ⟨122, [(0, .ptr 10 0 0), (3, (.ptr 20 0 0)), (71, (.d (.sl none ((linL p).map linD)))), (72, (.d (intD ((linL p).length : Int)))), (73, (.d (intD (q.1 : Int))))], HA p ++ [(20, [.blk 170 [.d (.sl none ((smI p).map intD)), .d (.sl none (BL.map u32D)), .own 902 0 q.2.1.length, .own 903 0 q.2.2.length]]), (902, [.rowD 168 1 (q.2.1.map rowZ)]), (903, [.rowD 2 1 (q.2.2.map intD)])]⟩) (fun q => q.1 ≤ (linL p).length ∧ q.2.1 = ((linL p).take q.1).map (rwOf p) ∧ q.2.2 = ((linL p).take q.1).map Lin.n) (fun q => (linL p).length - q.1) ((0, [], [])) (⟨Nat.zero_le _, rfl, rfl⟩) (lep_of hF [10, 11, 20, 902, 903] rfl rfl ⟨rfl, rfl, rfl, rfl, rfl, trivial⟩) ?_
    rintro ⟨n, DL, RL⟩ ⟨hn0, hD, hR⟩
    dsimp only at hn0 hD hR ⊢
    refine a_seq ?_
    refine a_region ?_
    refine Pstep.go (st_lss rfl rfl rfl) ?_
    refine o_nil ?_
    refine a_seq ?_
    refine a_if rfl (fun h74 => ?_) (fun h74 => ?_)
    · have hn1 : n < (linL p).length := lt_cast h74
      refine a_skip ?_
      refine a_seq ?_
      refine a_block ?_
      refine a_seq ?_
      refine a_region ?_
      refine Pstep.go (st_indexD (n) rfl rfl (rfl) (getm hn1) Tryz.underlying152 rfl sz157 rfl) ?_
      refine Pstep.go (st_loadDS rfl rfl rw157 rfl) ?_
      refine Estep.go (st_alloc 24 zl157 rfl rfl rfl rfl) ?_
      refine Estep.go (st_storeP rfl rfl rfl rfl rfl rfl rfl sz157) ?_
      refine o_nil ?_
      refine a_seq ?_
      refine a_region ?_
      refine Pstep.go (st_assign rfl rfl) ?_
      refine o_nil ?_
      refine a_seq ?_
      refine a_seq ?_
      refine a_adopt 13 905 sl168 rfl rfl rfl rfl ?_
      refine a_region ?_
      refine Pstep.go (st_move rfl rfl) ?_
      refine Pstep.go (st_nilCheckP rfl rfl) ?_
      refine Pstep.go (st_fieldP rfl fi170_0 rfl rfl rfl) ?_
      refine Pstep.go (st_loadP rfl rfl rfl on26 rfl) ?_
      refine Pstep.go (st_lenMap rfl Tryz.underlying26 rfl) ?_
      refine Pstep.go (st_move rfl rfl) ?_
      refine o_nil ?_
      refine a_block ?_
      refine a_loopP (α := Nat × List Int) (fun q => ⟨122, [(0, .ptr 10 0 0), (3, (.ptr 20 0 0)), (12, (.ptr 24 0 0)), (13, (.own 905 0 q.2.length)), (71, (.d (.sl none ((linL p).map linD)))), (72, (.d (intD ((linL p).length : Int)))), (73, (.d (intD (n : Int)))), (80, (.d (.sl none ((smI p).map intD)))), (81, (.d (intD ((smI p).length : Int)))), (82, (.d (intD (q.1 : Int))))], HA p ++ [(20, [.blk 170 [.d (.sl none ((smI p).map intD)), .d (.sl none (BL.map u32D)), .own 902 0 DL.length, .own 903 0 RL.length]]), (902, [.rowD 168 1 (DL.map rowZ)]), (903, [.rowD 2 1 (RL.map intD)]), (905, [.rowD 2 1 (q.2.map intD)]), (24, [.blk 157 (lineC (linL p)[n])])]⟩) (fun q => q.1 ≤ (smI p).length ∧ q.2 = ((smI p).take q.1).map (dlOf p (linL p)[n])) (fun q => (smI p).length - q.1) ((0, [])) (⟨Nat.zero_le _, rfl⟩) (lep_of hF [10, 11, 20, 902, 903, 905, 24] rfl rfl ⟨rfl, rfl, rfl, rfl, rfl, rfl, rfl, rfl, rfl, rfl, trivial⟩) ?_
      rintro ⟨j, acc⟩ ⟨hj0, hC⟩
      dsimp only at hj0 hC ⊢
      refine a_seq ?_
      refine a_region ?_
      refine Pstep.go (st_lss rfl rfl rfl) ?_
      refine o_nil ?_
      refine a_seq ?_
      refine a_if rfl (fun h83 => ?_) (fun h83 => ?_)
      · have hj1 : j < (smI p).length := lt_cast h83
        refine a_skip ?_
        refine a_seq ?_
        refine a_block ?_
        refine a_seq ?_
        refine a_region ?_
        refine Pstep.go (st_indexD (j) rfl rfl (rfl) (getm hj1) Tryz.underlying26 rfl sz3 rfl) ?_
        refine Pstep.go (st_loadD1 rfl rfl on3 rfl) ?_
        refine Pstep.go (st_assign rfl rfl) ?_
        refine o_nil ?_
        refine a_drawn [[], [], [1], [1, 2], [1, 2, 3], [], [1, 2, 3, 4, 5], [], [7], [1, 2, 3, 4, 5, 6, 7, 8], [1, 2, 3, 4, 5, 6, 7, 8, 9], [0, 1, 2, 3, 4, 5, 6, 7, 8, 9, 10], [0, 1, 2, 3, 4, 5, 6, 7, 8, 9, 10, 11]] mixed rfl ?_
        refine dws ?_
        have hcl : acc.length ≤ 20 := by rw [hC, List.length_map, List.length_take]; omega
        have hib := itmOf_B hb (smI p)[j]
        refine d_pure [13] [] rfl rfl (fun _ => gp_none (st_move rfl rfl)) ?_
        refine d_pure [0] [] rfl rfl (fun _ => gp_none (st_move rfl rfl)) ?_
        refine d_pure [87] [] rfl rfl (fun _ => gp_none (st_nilCheckP rfl rfl)) ?_
        refine d_pure [88] [] rfl rfl (fun _ => gp_none (st_fieldP rfl fi154_0 rfl rfl rfl)) ?_
        refine d_pure [89] [10] rfl rfl (fun _ => gp_none (st_loadP rfl rfl rfl on151 rfl)) ?_
        refine d_pure [15] [] rfl rfl (fun _ => gp_none (st_move rfl rfl)) ?_
        refine d_pure [90, 91] [11] rfl rfl (fun _ => gp_none (st_lookW (itemsM p.it) (smI p)[j] itm0 (itmOf p (smI p)[j]) rfl rfl rfl mt151 kt3 za100 itm0_weakD (itmOf_get p (smI p)[j]) rfl)) ?_
        refine d_pure [12] [] rfl rfl (fun _ => gp_none (st_fieldP rfl fi157_0 rfl rfl rfl)) ?_
        refine d_pure [93] [24] rfl rfl (fun _ => gp_none (st_loadPS rfl rfl rw47 rfl rfl rfl)) ?_
        refine d_pure [92, 94] [] rfl rfl (fun _ => gp_none (st_callP (delta_p (itmOf p (smI p)[j]) (linL p)[n].r (by omega) (by omega) (by omega)) rfl rfl)) ?_
        refine d_eff [95] [41] [(96, _)] rfl rfl (fun _ => ge_none (st_buildSlice 41 sl168 rfl rfl rfl rfl rfl rfl rfl rfl)) (.inr ⟨96, _, rfl, rfl, rfl, rfl, rfl⟩) rfl rfl rfl rfl rfl ?_
        refine dwc 11 rfl rfl rfl ?_
        refine dw1 12 rfl rfl ?_
        refine Estep.go (st_appM (acc) ([dlOf p (linL p)[n] (smI p)[j]]) rfl rfl rfl rfl rfl rfl rfl rfl sl168 (by simp only [List.length_singleton]; omega) rfl rfl rfl rfl) ?_
        refine o_nil ⟨rfl, ?_⟩
        refine dw1 13 rfl rfl ?_
        refine Pstep.go (st_assign rfl rfl) ?_
        refine o_nil ⟨rfl, ?_⟩
        refine dwe ?_
        refine a_region ?_
        refine Pstep.go (st_add rfl rfl (wrapS (j + 1) (by omega)) rfl) ?_
        refine Pstep.go (st_move rfl rfl) ?_
        refine o_nil ?_
        exact ⟨(j + 1, acc ++ [dlOf p (linL p)[n] (smI p)[j]]), ⟨by show j + 1 ≤ _; omega, by show acc ++ [dlOf p (linL p)[n] (smI p)[j]] = ((smI p).take (j + 1)).map (dlOf p (linL p)[n]); rw [tk_map hj1, hC]⟩, by show (smI p).length - (j + 1) < (smI p).length - j; omega, lep_of hF [10, 11, 20, 902, 903, 905, 24] rfl (rfl) ⟨rfl, rfl, rfl, rfl, rfl, rfl, rfl, rfl, rfl, rfl, trivial⟩⟩
      · have hfa : acc = rwOf p (linL p)[n] := by rw [hC, List.take_of_length_le (by have h := h83; omega)]; rfl
        refine a_exit ?_
        have hDl : DL.length ≤ 1000 := by rw [hD, List.length_map, List.length_take]; omega
        have hRl : RL.length ≤ 1000 := by rw [hR, List.length_map, List.length_take]; omega
        refine a_freezeM (emb := intD) 13 905 acc rfl rfl rfl rfl rfl rfl rfl ?_
        refine a_ghostR 950 902 0 rfl rfl rfl rfl rfl fun a1 c1 => ?_
        refine a_ghostR 951 903 0 rfl rfl rfl rfl rfl fun a2 c2 => ?_
        refine a_rawC 950 0 20 0 2 rfl rfl rfl rfl rfl ?_
        refine a_rawC 951 0 20 0 3 rfl rfl rfl rfl rfl ?_
        refine a_drawn [[], [], [], [2], [2, 3], [2, 3, 4], [], [6], [2, 3, 4, 5, 6, 7], [], [9], [9, 10], [9, 10, 11], [], [13], [13, 14], [2, 3, 4, 5, 6, 7, 8, 9, 10, 11, 12, 13, 14, 15], [0, 2, 3, 4, 5, 6, 7, 8, 9, 10, 11, 12, 13, 14, 15, 16], [0, 2, 3, 4, 5, 6, 7, 8, 9, 10, 11, 12, 13, 14, 15, 16, 17], [0, 2, 3, 4, 5, 6, 7, 8, 9, 10, 11, 12, 13, 14, 15, 16, 17, 18], [0, 1, 2, 3, 4, 5, 6, 7, 8, 9, 10, 11, 12, 13, 14, 15, 16, 17, 18, 19], [0, 1, 2, 3, 4, 5, 6, 7, 8, 9, 10, 11, 12, 13, 14, 15, 16, 17, 18, 19, 20], [0, 1, 2, 3, 4, 5, 6, 7, 8, 9, 10, 11, 12, 13, 14, 15, 16, 17, 18, 19, 20, 21]] mixed rfl ?_
        refine dws ?_
        refine d_pure [3] [] rfl rfl (fun _ => gp_none (st_move rfl rfl)) ?_
        refine d_pure [3] [] rfl rfl (fun _ => gp_none (st_move rfl rfl)) ?_
        refine d_pure [3] [] rfl rfl (fun _ => gp_none (st_move rfl rfl)) ?_
        refine d_pure [101] [] rfl rfl (fun _ => gp_none (st_nilCheckP rfl rfl)) ?_
        refine d_pure [102] [] rfl rfl (fun _ => gp_none (st_fieldP rfl fi170_2 rfl rfl rfl)) ?_
        refine d_pure [103] [20, 950] rfl rfl (fun _ => gp_none (st_loadO 950 0 rfl rfl rfl rfl (by simp) on167 rfl)) ?_
        refine d_pure [13] [] rfl rfl (fun _ => gp_none (st_move rfl rfl)) ?_
        refine d_eff [105] [42] [(106, _)] rfl rfl (fun _ => ge_none (st_buildSlice 42 sl167 rfl rfl rfl rfl rfl rfl rfl rfl)) (.inr ⟨106, _, rfl, rfl, rfl, rfl, rfl⟩) rfl rfl rfl rfl rfl ?_
        refine d_eff [104, 106] [902, 42, 950] [(107, _)] rfl rfl (fun _ => ge_none (st_appM (DL) ([acc]) rfl rfl rfl rfl rfl rfl rfl rfl sl167 (by simp only [List.length_singleton]; omega) rfl rfl rfl rfl)) (.inr ⟨107, _, rfl, rfl, rfl, rfl, rfl⟩) rfl rfl rfl rfl rfl ?_
        refine d_pure [3] [] rfl rfl (fun _ => gp_none (st_move rfl rfl)) ?_
        refine d_pure [108] [] rfl rfl (fun _ => gp_none (st_nilCheckP rfl rfl)) ?_
        refine d_pure [109] [] rfl rfl (fun _ => gp_none (st_fieldP rfl fi170_3 rfl rfl rfl)) ?_
        refine d_pure [110] [20, 951] rfl rfl (fun _ => gp_none (st_loadO 951 0 rfl rfl rfl rfl (by simp) on168 rfl)) ?_
        refine d_pure [12] [] rfl rfl (fun _ => gp_none (st_fieldP rfl fi157_1 rfl rfl rfl)) ?_
        refine d_pure [112] [24] rfl rfl (fun _ => gp_none (st_loadP rfl rfl rfl on2 rfl)) ?_
        refine d_eff [113] [43] [(114, _)] rfl rfl (fun _ => ge_none (st_buildSlice 43 sl168 rfl rfl rfl rfl rfl rfl rfl rfl)) (.inr ⟨114, _, rfl, rfl, rfl, rfl, rfl⟩) rfl rfl rfl rfl rfl ?_
        refine d_eff [111, 114] [903, 43, 951] [(115, _)] rfl rfl (fun _ => ge_none (st_appM (RL) ([(linL p)[n].n]) rfl rfl rfl rfl rfl rfl rfl rfl sl168 (by simp only [List.length_singleton]; omega) rfl rfl rfl rfl)) (.inr ⟨115, _, rfl, rfl, rfl, rfl, rfl⟩) rfl rfl rfl rfl rfl ?_
        refine d_pure [99] [] rfl rfl (fun _ => gp_none (st_nilCheckP rfl rfl)) ?_
        refine d_pure [116] [] rfl rfl (fun _ => gp_none (st_fieldP rfl fi170_2 rfl rfl rfl)) ?_
        refine d_eff [117, 107] [20, 902] [] rfl rfl (fun _ => ge_none (st_storeP rfl rfl rfl rfl rfl rfl rfl sz167)) (.inl ⟨rfl, rfl⟩) rfl rfl rfl rfl rfl ?_
        refine dwc 20 rfl rfl rfl ?_
        refine dw1 21 rfl rfl ?_
        refine Pstep.go (st_nilCheckP rfl rfl) ?_
        refine o_nil ⟨rfl, ?_⟩
        refine dw1 22 rfl rfl ?_
        refine Pstep.go (st_fieldP rfl fi170_3 rfl rfl rfl) ?_
        refine o_nil ⟨rfl, ?_⟩
        refine dw1 23 rfl rfl ?_
        refine Estep.go (st_storeP rfl rfl rfl rfl rfl rfl rfl sz168) ?_
        refine o_nil ⟨rfl, ?_⟩
        refine dwe ?_
        refine a_region ?_
        refine Pstep.go (st_add rfl rfl (wrapS (n + 1) (by omega)) rfl) ?_
        refine Pstep.go (st_move rfl rfl) ?_
        refine o_nil ?_
        exact ⟨(n + 1, DL ++ [acc], RL ++ [(linL p)[n].n]), ⟨by show n + 1 ≤ _; omega, by show DL ++ [acc] = ((linL p).take (n + 1)).map (rwOf p); rw [tk_map hn1, hD, hfa], by show RL ++ [(linL p)[n].n] = ((linL p).take (n + 1)).map Lin.n; rw [tk_map hn1, hR]⟩, by show (linL p).length - (n + 1) < (linL p).length - n; omega, lep_of hF [10, 11, 20, 902, 903] rfl (rfl) ⟨rfl, rfl, rfl, rfl, rfl, trivial⟩⟩
    · refine a_exit ?_
      refine a_seq ?_
      have hDL : DL = (linL p).map (rwOf p) := by rw [hD, List.take_of_length_le (by have h := h74; omega)]
      have hRL : RL = (linL p).map Lin.n := by rw [hR, List.take_of_length_le (by have h := h74; omega)]
      refine a_freezeC (ys := DL.map rowZ) 20 0 2 902 rfl rfl rfl (Nat.le_of_eq (by simp)) (List.take_of_length_le (by simp)) rfl rfl rfl rfl rfl rfl ?_
      refine a_freezeC (ys := RL.map intD) 20 0 3 903 rfl rfl rfl (Nat.le_of_eq (by simp)) (List.take_of_length_le (by simp)) rfl rfl rfl rfl rfl rfl ?_
      refine a_freezeB 3 20 (smaD ⟨smI p, BL, DL, RL⟩) [10, 11] hF rfl rfl rfl (by intro c hc; simp [D.cells] at hc; rcases hc with rfl | rfl | rfl | rfl <;> rfl) rfl rfl rfl ?_
      refine a_region ?_
      refine Pstep.go (st_move rfl rfl) ?_
      refine Pstep.go (st_assign rfl rfl) ?_
      refine o_nil ?_
      refine a_ret ?_
      exact ⟨_, [10, 11], _, res_of rfl, rfl, rfl, by rw [hBL, hDL, hRL]; rfl, rfl⟩
end Go.Proofs.YtnamabifclidmaaGreat
/- Layer 29: problems with few items are begun; Count. -/
namespace Go.Proofs.YtnamabifclidmaaGreat
open Go.RowKit

set_option maxRecDepth 100000 in
theorem begin_ok (p : Prb) (hb : PrbB p) (hE : prbE p = 0) (h1 : p.it.length ≤ 20) (h2 : p.ro.length ≤ 1000) : PCalls Tryz.prog 59 [.d (prbD p)] (.tup [.ptr (smaD (smlOf p)), intD 0]) := by
  have hpr := (analyze_ok p hb hE).by [(3, 10), (2, 11)] rfl
  refine a_enter Tryz.func59 rfl rfl Tryz.ntmps59 rfl rfl rfl fun F hF => ?_
  refine a_seq ?_
  refine a_region ?_
  refine Estep.go (st_box 1 rfl rfl rfl rfl rfl rfl rfl) ?_
  refine Pstep.go (st_assign rfl rfl) ?_
  refine Pstep.go (st_assign rfl rfl) ?_
  refine o_nil ?_
  refine a_seq ?_
  refine a_region ?_
  first | refine Pstep.go (st_loadDS rfl rfl rw35 rfl) ?_ | refine Pstep.go (st_loadPS rfl rfl rw35 rfl rfl rfl) ?_ | refine Pstep.go (st_loadRS rfl rfl (rfl) rfl rw35 rfl) ?_
  refine Estep.go (st_callD hpr rfl [10, 11] ⟨rfl, rfl, trivial⟩ rfl rfl rfl rfl rfl rfl rfl rfl rfl) ?_
  refine Pstep.go (st_move rfl rfl) ?_
  first | refine Pstep.go (st_extractD rfl rfl rfl) ?_ | refine Pstep.go (st_extract rfl rfl rfl) ?_
  first | refine Pstep.go (st_extractD rfl rfl rfl) ?_ | refine Pstep.go (st_extract rfl rfl rfl) ?_
  refine Pstep.go (st_assign rfl rfl) ?_
  refine Pstep.go (st_assign rfl rfl) ?_
  refine o_nil ?_
  refine a_seq ?_
  refine a_seq ?_
  refine a_region ?_
  refine Pstep.go (st_move rfl rfl) ?_
  first | refine Pstep.go (st_neq rfl rfl rfl) ?_ | refine Pstep.go (st_neqSL rfl rfl rfl) ?_ | refine Pstep.go (st_neqS rfl rfl rfl) ?_ | refine Pstep.go (st_neqB Tryz.underlying29 rfl rfl rfl) ?_ | refine Pstep.go (st_neqP Tryz.underlying29 rfl rfl rfl) ?_ | refine Pstep.go (st_neqN Tryz.underlying29 rfl rfl) ?_ | refine Pstep.go (st_neqF Tryz.underlying29 rfl rfl rfl) ?_ | refine Pstep.go (st_neqFN Tryz.underlying29 rfl rfl) ?_
  refine o_nil ?_
  refine a_false rfl ((by decide)) ?_
  refine a_skip ?_
  refine a_seq ?_
  refine a_seq ?_
  refine a_region ?_
  first | refine Pstep.go (st_fieldP rfl fi35_1 rfl rfl rfl) ?_ | refine Pstep.go (st_fieldF1 rfl fi35_1 rfl rfl rfl) ?_ | refine Pstep.go (st_fieldFS rfl fi35_1 rfl rfl rfl) ?_ | refine Pstep.go (st_fieldR rfl fi35_1 rfl rfl rfl) ?_
  first | refine Pstep.go (st_loadD1 rfl rfl on33 rfl) ?_ | refine Pstep.go (st_loadP rfl rfl rfl on33 rfl) ?_ | refine Pstep.go (st_loadR rfl rfl (rfl) rfl on33 rfl) ?_
  first | refine Pstep.go (st_lenMap rfl Tryz.underlying33 rfl) ?_ | refine Pstep.go (st_lenD rfl rfl Tryz.underlying33 rfl) ?_ | refine Pstep.go (st_lenO rfl Tryz.underlying33 rfl) ?_ | refine Pstep.go (st_lenSL rfl Tryz.underlying33 rfl) ?_ | refine Pstep.go (st_lenS rfl Tryz.underlying33 rfl) ?_
  first | refine Pstep.go (st_gtr rfl rfl rfl) ?_ | refine Pstep.go (st_gtrS rfl rfl rfl) ?_
  refine o_nil ?_
  refine a_false rfl ((decide_eq_false (by omega))) ?_
  refine a_skip ?_
  refine a_seq ?_
  refine a_region ?_
  refine Pstep.go (st_move rfl rfl) ?_
  refine Estep.go (st_callD (reduce_c p hE hb h1 h2) rfl [10, 11] ⟨rfl, rfl, trivial⟩ rfl rfl rfl rfl rfl rfl rfl rfl rfl) ?_
  refine Pstep.go (st_assign rfl rfl) ?_
  refine Pstep.go (st_assign rfl rfl) ?_
  refine o_nil ?_
  refine a_ret ?_
  exact ⟨_, [], [], res_of rfl, rfl, rfl, rfl, rfl⟩
theorem enumX_lt {n : Nat} (hn : n ≤ 31) : ∀ (l frm x : Nat), x < 4294967296 → ∀ y ∈ enumX n l frm x, y < 4294967296
  | 0, _, x, hx, y, hy => by
    have : y = x := by simpa [enumX] using hy
    rw [this]; exact hx
  | l + 1, frm, x, hx, y, hy => by
    unfold enumX at hy
    obtain ⟨i, hi, hy⟩ := List.mem_flatMap.1 hy
    obtain ⟨j, hj, rfl⟩ := List.mem_map.1 hi
    have hj' := List.mem_range.1 hj
    exact enumX_lt hn l _ _ (or_lt hx (shl_lt (by omega))) y hy
theorem pow_sum (f : Nat → Nat) (m : Nat) : ∀ c, c ≤ m → (∀ j, j < c → f j ≤ 2 ^ (m - (j + 1))) → ((List.range c).map f).sum + 2 ^ (m - c) ≤ 2 ^ m
  | 0, _, _ => by simp
  | c + 1, h, hf => by
    have ih := pow_sum f m c (by omega) fun j hj => hf j (by omega)
    have h2 := hf c (by omega)
    have h3 : 2 ^ (m - c) = 2 ^ (m - (c + 1)) + 2 ^ (m - (c + 1)) := by
      have : m - c = (m - (c + 1)) + 1 := by omega
      rw [this, Nat.pow_succ]; omega
    rw [List.range_succ, List.map_append, List.sum_append, List.map_singleton, List.sum_singleton]
    omega
theorem enumX_len {n : Nat} : ∀ (l frm x : Nat), (enumX n l frm x).length ≤ 2 ^ (n - frm)
  | 0, frm, x => by
    have : 0 < 2 ^ (n - frm) := Nat.pow_pos (by omega)
    simp [enumX]; omega
  | l + 1, frm, x => by
    unfold enumX
    rw [List.length_flatMap, List.map_map]
    have h := pow_sum (((fun i => (enumX n l (i + 1) (x ||| 1 <<< i)).length)) ∘ fun j => frm + j) (n - frm) (n + 1 - (l + 1) - frm) (by omega) (fun j hj => by
      have := enumX_len l (frm + j + 1) (x ||| 1 <<< (frm + j)) (n := n)
      have e : n - frm - (j + 1) = n - (frm + j + 1) := by omega
      rw [e]; exact this)
    exact Nat.le_trans (Nat.le_add_right _ _) h
theorem allX_lt {s : Sma} (hn : s.ids.length ≤ 31) : ∀ y ∈ allX s, y < 4294967296 := fun y hy => by
  unfold allX at hy
  obtain ⟨k, _, hy⟩ := List.mem_flatMap.1 hy
  exact enumX_lt hn k 0 0 (by omega) y (List.mem_filter.1 hy).1
theorem allX_len {s : Sma} (hn : s.ids.length ≤ 20) : (allX s).length ≤ 100000000 := by
  unfold allX
  have h := flat_len (f := fun k => (enumX s.ids.length k 0 0).filter (admS s)) (n := 1048576) (l := List.range (s.ids.length + 1)) (fun k _ => by
    have h1 := enumX_len (n := s.ids.length) k 0 0
    have h2 : 2 ^ (s.ids.length - 0) ≤ 2 ^ 20 := Nat.pow_le_pow_right (by omega) (by omega)
    have h3 : (2 : Nat) ^ 20 = 1048576 := by decide
    exact Nat.le_trans (List.length_filter_le _ _) (by omega))
  rw [List.length_range] at h
  have : (s.ids.length + 1) * 1048576 ≤ 21 * 1048576 := Nat.mul_le_mul_right _ (by omega)
  omega
abbrev hCt (s : Sma) (q : Nat × Nat) : Hp := [(2, [.blk 124 [.d (.ptr (smaD s))]]), (3, [.blk 3 [.d (intD (q.1 : Int))]]), (4, [.blk 3 [.d (intD (q.2 : Int))]])]
def stepC (s : Sma) (q : Nat × Nat) (x : Nat) : (Nat × Nat) × Bool := ((q.1 + 1, q.2 + bif feaS s x then 1 else 0), true)
theorem feed_cnt (s : Sma) : ∀ (l : List Nat) (q : Nat × Nat), feed (stepC s) q l = (q.1 + l.length, q.2 + (l.filter (feaS s)).length)
  | [], q => by simp [feed]
  | x :: l, q => by
    rw [feed_cons']
    show (if true = true then feed (stepC s) (q.1 + 1, q.2 + bif feaS s x then 1 else 0) l else _) = _
    rw [if_pos rfl, feed_cnt s l]
    cases h : feaS s x <;> simp [h] <;> omega
theorem feeds_cnt {P : Program} {l : Nat} {H : Nat × Nat → Hp} (s : Sma) {n : Nat} (hY : ∀ a b x, a < n → b ≤ a → x < 4294967296 → YCalls P l (encU x) (H (a, b)) fun v H' => v = .d (.raw (.bool true)) ∧ H' = H (a + 1, b + bif feaS s x then 1 else 0)) : ∀ (xs : List Nat) (q : Nat × Nat), (∀ x ∈ xs, x < 4294967296) → q.1 + xs.length ≤ n → q.2 ≤ q.1 → Feeds P l encU H (stepC s) q xs
  | [], _, _, _, _ => trivial
  | x :: xs, (a, b), hx, h, hq => ⟨hY a b x (by simp at h; omega) hq (hx x (by simp)), fun _ => feeds_cnt s hY xs (a + 1, b + bif feaS s x then 1 else 0) (fun y hy => hx y (by simp [hy])) (by simp at h ⊢; omega) (by show b + (bif feaS s x then 1 else 0) ≤ a + 1; cases feaS s x <;> simp at hq ⊢ <;> omega)⟩
/-- What is known of a small form. -/
structure SmaB (s : Sma) : Prop where
  n : s.ids.length ≤ 20
  b : s.bl.length ≤ 20
  u : ∀ b ∈ s.bl, b < 4294967296
  r : s.rm.length ≤ 1000
  d : s.de.length = s.rm.length
  v : ∀ r ∈ s.de, r.length ≤ 32 ∧ ∀ v ∈ r, -1000000000000000 ≤ v ∧ v ≤ 1000000000000000
  m : ∀ v ∈ s.rm, 0 ≤ v ∧ v ≤ 4000000000000000
theorem smlB {p : Prb} (hp : prbE p = 0) (h1 : p.it.length ≤ 20) (h2 : p.ro.length ≤ 1000) : SmaB (smlOf p) := by
  have hIl := smI_len hp
  have hLl := linL_len p
  refine ⟨by show (smI p).length ≤ 20; omega, by show ((smI p).map (blOf p)).length ≤ 20; rw [List.length_map]; omega, fun b hb => ?_, by show ((linL p).map Lin.n).length ≤ 1000; rw [List.length_map]; omega, by show ((linL p).map (rwOf p)).length = ((linL p).map Lin.n).length; simp, fun r hr => ?_, fun v hv => ?_⟩
  · obtain ⟨i, _, rfl⟩ := List.mem_map.1 hb
    exact bits_lt (by omega) _
  · obtain ⟨x, _, rfl⟩ := List.mem_map.1 hr
    refine ⟨by show ((smI p).map (dlOf p x)).length ≤ 32; rw [List.length_map]; omega, fun v hv => ?_⟩
    obtain ⟨i, _, rfl⟩ := List.mem_map.1 hv
    exact dltE_b _ _
  · obtain ⟨x, hx, rfl⟩ := List.mem_map.1 hv
    exact linL_n hp x hx
set_option maxRecDepth 100000 in
theorem count_ok (p : Prb) (hb : PrbB p) (hE : prbE p = 0) (h1 : p.it.length ≤ 20) (h2 : p.ro.length ≤ 1000) : PCalls Tryz.prog 36 [.d (prbD p)] (.tup [intD ((allX (smlOf p)).length : Nat), intD (((allX (smlOf p)).filter (feaS (smlOf p))).length : Nat), intD 0]) := by
  have hbg := begin_ok p hb hE h1 h2
  have hB := smlB hE h1 h2
  obtain ⟨s, hs⟩ : ∃ s, smlOf p = s := ⟨_, rfl⟩
  rw [hs] at hbg hB ⊢
  have hB0 := hB
  have hAl := allX_len hB.n
  have hAx := allX_lt (s := s) (by have := hB.n; omega)
  have hfe := fun x (hx : x < 4294967296) => feaS_p s x hx (by have := hB.r; omega) hB.d hB.v hB.m
  have hfe' : ∀ x, x < 4294967296 → ∀ c, feaS s x = c → PCalls Tryz.prog 61 [.d (.ptr (smaD s)), .d (u32D x)] (boolD c) := fun x hx c hc => by rw [← hc]; exact hfe x hx
  refine a_enterR Tryz.func36 rfl rfl Tryz.ntmps36 rfl rfl rfl fun F hF hFl => ?_
  refine a_seq ?_
  refine a_region ?_
  refine Estep.go (st_box 1 rfl rfl rfl rfl rfl rfl rfl) ?_
  refine Pstep.go (st_assign rfl rfl) ?_
  refine Pstep.go (st_assign rfl rfl) ?_
  refine Pstep.go (st_assign rfl rfl) ?_
  refine o_nil ?_
  refine a_seq ?_
  refine a_region ?_
  first | refine Pstep.go (st_loadDS rfl rfl rw35 rfl) ?_ | refine Pstep.go (st_loadPS rfl rfl rw35 rfl rfl rfl) ?_ | refine Pstep.go (st_loadRS rfl rfl (rfl) rfl rw35 rfl) ?_
  refine Pstep.go (st_callP (hbg) rfl rfl) ?_
  refine Pstep.go (st_move rfl rfl) ?_
  first | refine Pstep.go (st_extractD rfl rfl rfl) ?_ | refine Pstep.go (st_extract rfl rfl rfl) ?_
  first | refine Pstep.go (st_extractD rfl rfl rfl) ?_ | refine Pstep.go (st_extract rfl rfl rfl) ?_
  refine Estep.go (st_alloc 2 zl124 rfl rfl rfl rfl) ?_
  refine Estep.go (st_storeP rfl rfl rfl rfl rfl rfl rfl sz124) ?_
  refine Pstep.go (st_assign rfl rfl) ?_
  refine o_nil ?_
  refine a_seq ?_
  refine a_seq ?_
  refine a_region ?_
  refine Pstep.go (st_move rfl rfl) ?_
  first | refine Pstep.go (st_neq rfl rfl rfl) ?_ | refine Pstep.go (st_neqSL rfl rfl rfl) ?_ | refine Pstep.go (st_neqS rfl rfl rfl) ?_ | refine Pstep.go (st_neqB Tryz.underlying29 rfl rfl rfl) ?_ | refine Pstep.go (st_neqP Tryz.underlying29 rfl rfl rfl) ?_ | refine Pstep.go (st_neqN Tryz.underlying29 rfl rfl) ?_ | refine Pstep.go (st_neqF Tryz.underlying29 rfl rfl rfl) ?_ | refine Pstep.go (st_neqFN Tryz.underlying29 rfl rfl) ?_
  refine o_nil ?_
  refine a_false rfl ((by decide)) ?_
  refine a_skip ?_
  refine a_seq ?_
  refine a_region ?_
  refine Estep.go (st_alloc 3 zl3 rfl rfl rfl rfl) ?_
  refine Estep.go (st_alloc 4 zl3 rfl rfl rfl rfl) ?_
  refine Estep.go (st_storeP rfl rfl rfl rfl rfl rfl rfl sz3) ?_
  refine Estep.go (st_storeP rfl rfl rfl rfl rfl rfl rfl sz3) ?_
  refine o_nil ?_
  refine a_seq ?_
  refine a_seq ?_
  refine a_region ?_
  first | refine Pstep.go (st_loadD1 rfl rfl on124 rfl) ?_ | refine Pstep.go (st_loadP rfl rfl rfl on124 rfl) ?_ | refine Pstep.go (st_loadR rfl rfl (rfl) rfl on124 rfl) ?_
  refine Estep.go (st_callD (sets_c s) rfl [] trivial rfl rfl rfl rfl rfl rfl rfl rfl rfl) ?_
  refine o_nil ?_
  refine a_block ?_
  refine a_keep [5, 7, 8, 19] rfl ?_
  refine a_only [2, 3, 4] hF rfl rfl ?_
  refine a_range (γ := Unit) hFl 900 rfl rfl rfl rfl rfl [2, 3, 4] (CHr := hCt s (0, 0)) (fun _ => True) (fun _ => hCt s ((allX s).length, ((allX s).filter (feaS s)).length)) (fun _ => .ready) (fun _ => none) ⟨rfl, rfl, rfl, trivial⟩ rfl rfl rfl (fun _ => rfl) (fun _ => rfl) rfl (fun _ _ => by simp) (fun _ _ => ⟨rfl, rfl⟩) [2, 3, 4] hF rfl rfl (fun _ _ => rfl) (fun l A B hA hB => ?_) (fun _ _ => ?_)
  · refine (setsF_c s hB0.u (by have := hB0.b; omega) (by have := hB0.n; omega) l (fun q : Nat × Nat => (900, [.loop ⟨l, 30, [(5, .ptr 2 0 0), (7, .ptr 3 0 0), (8, .ptr 4 0 0), (19, .fn 85 [cS s])], .ready, none, #[20], A, B⟩]) :: hCt s q) [900, 2, 3, 4] (stepC s) (0, 0) (fun _ => rfl) (fun _ => rfl) (fun _ => rfl) rfl rfl (fun _ => rfl) (fun _ => rfl) ?_).mono (fun r H' ⟨e1, e2⟩ => ⟨e1, (), trivial, by rw [e2, feed_cnt]; simp only [Nat.zero_add]⟩)
    refine feeds_cnt s (n := 100000000) (fun a b x ha hba hx => ?_) (allX s) (0, 0) hAx (by simp only [Nat.zero_add]; exact hAl) (Nat.le_refl _)
    have hf2 := hfe' x hx
    refine yc_round (lf := 900) rfl rfl rfl rfl fun F hF hr => ?_
    show Awp _ _ A _ _
    rw [hA]
    refine a_region ?_
    refine Pstep.go (st_assign rfl rfl) ?_
    refine o_nil ?_
    refine ⟨rfl, _, _, rfl, rfl, rfl, rfl, ?_⟩
    show Awp _ _ B _ _
    rw [hB]
    refine a_block ?_
    refine a_seq ?_
    refine a_region ?_
    cases hfx : feaS s x
    · first | refine Pstep.go (st_loadD1 rfl rfl on3 rfl) ?_ | refine Pstep.go (st_loadP rfl rfl rfl on3 rfl) ?_ | refine Pstep.go (st_loadR rfl rfl (rfl) rfl on3 rfl) ?_
      refine Pstep.go (st_add rfl rfl (wrapS (a + 1) (by omega)) rfl) ?_
      refine Estep.go (st_storeP rfl rfl rfl rfl rfl rfl rfl sz3) ?_
      refine o_nil ?_
      refine a_seq ?_
      refine a_region ?_
      first | refine Pstep.go (st_loadD1 rfl rfl on124 rfl) ?_ | refine Pstep.go (st_loadP rfl rfl rfl on124 rfl) ?_ | refine Pstep.go (st_loadR rfl rfl (rfl) rfl on124 rfl) ?_
      refine Pstep.go (st_move rfl rfl) ?_
      refine Pstep.go (st_callP (hf2 _ hfx) rfl rfl) ?_
      refine o_nil ?_
      refine a_false rfl (rfl) ?_
      refine a_skip ?_
      exact ⟨none, _, _, [900, 2, 3, 4], _, rfl, rfl, rfl, rfl, rfl, rfl, rfl, rfl⟩
    · first | refine Pstep.go (st_loadD1 rfl rfl on3 rfl) ?_ | refine Pstep.go (st_loadP rfl rfl rfl on3 rfl) ?_ | refine Pstep.go (st_loadR rfl rfl (rfl) rfl on3 rfl) ?_
      refine Pstep.go (st_add rfl rfl (wrapS (a + 1) (by omega)) rfl) ?_
      refine Estep.go (st_storeP rfl rfl rfl rfl rfl rfl rfl sz3) ?_
      refine o_nil ?_
      refine a_seq ?_
      refine a_region ?_
      first | refine Pstep.go (st_loadD1 rfl rfl on124 rfl) ?_ | refine Pstep.go (st_loadP rfl rfl rfl on124 rfl) ?_ | refine Pstep.go (st_loadR rfl rfl (rfl) rfl on124 rfl) ?_
      refine Pstep.go (st_move rfl rfl) ?_
      refine Pstep.go (st_callP (hf2 _ hfx) rfl rfl) ?_
      refine o_nil ?_
      refine a_true rfl (rfl) ?_
      refine a_region ?_
      first | refine Pstep.go (st_loadD1 rfl rfl on3 rfl) ?_ | refine Pstep.go (st_loadP rfl rfl rfl on3 rfl) ?_ | refine Pstep.go (st_loadR rfl rfl (rfl) rfl on3 rfl) ?_
      refine Pstep.go (st_add rfl rfl (wrapS (b + 1) (by omega)) rfl) ?_
      refine Estep.go (st_storeP rfl rfl rfl rfl rfl rfl rfl sz3) ?_
      refine o_nil ?_
      exact ⟨none, _, _, [900, 2, 3, 4], _, rfl, rfl, rfl, rfl, rfl, rfl, rfl, rfl⟩
  · refine a_seq ?_
    refine a_drawn [[], [], [0], [0, 1, 2], [0, 1, 2, 3]] mixed rfl ?_
    refine dws ?_
    first | refine d_pure [7] [3] rfl rfl (fun _ => gp_none (st_loadD1 rfl rfl on3 rfl)) ?_ | refine d_pure [7] [3] rfl rfl (fun _ => gp_none (st_loadP rfl rfl rfl on3 rfl)) ?_ | refine d_pure [7] [3] rfl rfl (fun _ => gp_none (st_loadR rfl rfl (rfl) rfl on3 rfl)) ?_
    first | refine d_pure [8] [4] rfl rfl (fun _ => gp_none (st_loadD1 rfl rfl on3 rfl)) ?_ | refine d_pure [8] [4] rfl rfl (fun _ => gp_none (st_loadP rfl rfl rfl on3 rfl)) ?_ | refine d_pure [8] [4] rfl rfl (fun _ => gp_none (st_loadR rfl rfl (rfl) rfl on3 rfl)) ?_
    first | refine d_pure [28] [] rfl rfl (fun _ => gp_none (st_assign rfl rfl)) ?_ | refine d_pureA [28] rfl rfl (fun _ => gp_none (st_assign rfl rfl)) ?_
    refine dwc 3 rfl rfl rfl ?_
    refine dw1 4 rfl rfl ?_
    refine Pstep.go (st_assign rfl rfl) ?_
    refine o_nil ⟨rfl, ?_⟩
    refine dw1 5 rfl rfl ?_
    refine Pstep.go (st_assign rfl rfl) ?_
    refine o_nil ⟨rfl, ?_⟩
    refine dwe ?_
    refine a_ret ?_
    exact ⟨_, [], [], res_of rfl, rfl, rfl, rfl, rfl⟩
end Go.Proofs.YtnamabifclidmaaGreat
/- Layer 29: the example of the chapter. -/
namespace Go.Proofs.YtnamabifclidmaaGreat
open Go.RowKit

deriving instance DecidableEq for Lin
def accQ (a : List UInt8) : Acc := ⟨a, 0, [67, 65, 83, 72]⟩
def payI (id sq : Int) (a b : List UInt8) (n : Int) : Itm := ⟨id, 0, sq, [⟨accQ a, 0 - n⟩, ⟨accQ b, n⟩], [], []⟩
set_option maxRecDepth 100000 in
theorem pay0_p (id sq n : Int) (a b : List UInt8) (h0 : 0 ≤ n) (h1 : n ≤ 1000000000000000) : PCalls Tryz.prog 42 [.d (intD id), .d (intD sq), .d (strD a), .d (strD b), .d (intD n)] (.agg [intD id, intD 0, intD sq, .sl none ((payI id sq a b n).po.map postD), .sl (some true) [], .sl (some true) []]) := by
  refine a_enter Tryz.func42 rfl rfl Tryz.ntmps42 rfl rfl rfl fun F hF => ?_
  refine a_seq ?_
  refine a_region ?_
  refine Estep.go (st_alloc 1 zl100 rfl rfl rfl rfl) ?_
  refine o_nil ?_
  refine a_seq ?_
  refine a_region ?_
  refine Pstep.go (st_move rfl rfl) ?_
  refine Pstep.go (st_move rfl rfl) ?_
  refine Pstep.go (st_move rfl rfl) ?_
  refine Pstep.go (st_build zl45 pl45 rfl rfl rfl) ?_
  refine Pstep.go (st_move rfl rfl) ?_
  refine Pstep.go (st_sub rfl rfl (IntWalk.i64_in _ (by omega)) rfl) ?_
  refine Pstep.go (st_build zl142 pl142 rfl rfl rfl) ?_
  refine Pstep.go (st_move rfl rfl) ?_
  refine Pstep.go (st_build zl45 pl45 rfl rfl rfl) ?_
  refine Pstep.go (st_move rfl rfl) ?_
  refine Pstep.go (st_build zl142 pl142 rfl rfl rfl) ?_
  refine Estep.go (st_buildSlice 2 sl97 rfl rfl rfl rfl rfl rfl rfl rfl) ?_
  refine o_freezeM (emb := postD) 22 2 (payI id sq a b n).po rfl rfl rfl rfl rfl rfl rfl ?_
  refine Pstep.go (st_build zl100 pl100 rfl rfl rfl) ?_
  refine Estep.go (st_storeP rfl rfl rfl rfl rfl rfl rfl sz100) ?_
  refine o_nil ?_
  refine a_ret ?_
  exact ⟨_, [], [], res_of rfl, rfl, rfl, rfl, rfl⟩
theorem pay29_p (id sq n : Int) (a b : List UInt8) (h0 : 0 ≤ n) (h1 : n ≤ 1000000000000000) : PCalls Tryz.prog 42 [.d (intD id), .d (intD sq), .d (strD a), .d (strD b), .d (intD n)] (itmD (payI id sq a b n)) :=
  (pay0_p id sq n a b h0 h1).weak fun w O v h => h.aggMono rfl (by simp [D.one]) fun i c c' hc hc' v hv => by
    match i, hc, hc' with
    | 0, hc, hc' => injection hc with hc; injection hc' with hc'; subst hc hc'; exact hv
    | 1, hc, hc' => injection hc with hc; injection hc' with hc'; subst hc hc'; exact hv
    | 2, hc, hc' => injection hc with hc; injection hc' with hc'; subst hc hc'; exact hv
    | 3, hc, hc' => injection hc with hc; injection hc' with hc'; subst hc hc'; exact hv
    | 4, hc, hc' => injection hc with hc; injection hc' with hc'; subst hc hc'; exact hv.anyNil
    | 5, hc, hc' => injection hc with hc; injection hc' with hc'; subst hc hc'; exact hv.anyNil
def rcA : Rsc := ⟨0, accQ [65], [], []⟩
def rcB : Rsc := ⟨0, accQ [66], [], []⟩
def rosK : List Roo := [⟨rcA, 0⟩, ⟨rcB, 0⟩]
def itsK : List Itm := [payI 1 1 [65] [66] 5, payI 2 2 [66] [65] 5]
def itK3 : Itm := payI 3 3 [65] [66] 1
def pK2 : Prb := ⟨rosK, itsK⟩
def pK3 : Prb := ⟨rosK, itsK ++ [itK3]⟩
theorem pK2_E : prbE pK2 = 0 := by decide
theorem pK2_R : linR rosK = rosK := (linR_one pK2_E (List.Perm.refl _) (by decide)).symm
theorem sortI_nil : sortI [] = [] := List.eq_nil_of_length_eq_zero (sortI_len [])
theorem pK2_ids : ordI_ids pK2 = [1, 2] := by decide
theorem pK3_ids : ordI_ids pK3 = [1, 2, 3] := by decide
theorem pK2_sm : smI pK2 = [1, 2] := by
  unfold smI; rw [pK2_ids]; exact (sort_one (List.Perm.refl _) (by decide)).symm
theorem pK2_L : linL pK2 = [⟨rcA, 0, [1]⟩, ⟨rcB, 0, [2]⟩] := by
  unfold linL; rw [show pK2.ro = rosK from rfl, pK2_R]; decide
theorem pK3_L : linL pK3 = [⟨rcA, 0, [1, 3]⟩, ⟨rcB, 0, [2]⟩] := by
  unfold linL; rw [show pK3.ro = rosK from rfl, pK2_R]; decide
theorem req_noaf {p : Prb} {i : Int} (h : (itmOf p i).af = []) : req p i = (linL p).flatMap (reqL i) := by
  unfold req reqA; rw [h, sortI_nil]; rfl
theorem pK2_r1 : req pK2 1 = [] := by rw [req_noaf (by decide), pK2_L]; decide
theorem pK2_r2 : req pK2 2 = [] := by rw [req_noaf (by decide), pK2_L]; decide
theorem pK3_r3 : req pK3 3 = [⟨3, 1, rcA⟩] := by rw [req_noaf (by decide), pK3_L]; decide
def smK : Sma := ⟨[1, 2], [0, 0], [[-5, 5], [5, -5]], [0, 0]⟩
theorem pK2_S : smlOf pK2 = smK := by
  unfold smlOf
  have e1 : blOf pK2 1 = 0 := by unfold blOf; rw [pK2_r1]; rfl
  have e2 : blOf pK2 2 = 0 := by unfold blOf; rw [pK2_r2]; rfl
  have e3 : ∀ x, rwOf pK2 x = [dlOf pK2 x 1, dlOf pK2 x 2] := fun x => by unfold rwOf; rw [pK2_sm]; rfl
  have e4 : (linL pK2).map (rwOf pK2) = [[-5, 5], [5, -5]] := by rw [pK2_L]; simp only [List.map_cons, List.map_nil, e3]; decide
  rw [pK2_sm, e4, pK2_L]
  simp only [List.map_cons, List.map_nil, e1, e2]; rfl
theorem smK_n : (allX smK).length = 4 := by decide
theorem smK_f : ((allX smK).filter (feaS smK)).length = 2 := by decide
theorem pK2_b12 : blks pK2 (inL [2, 1]) = [] := by
  unfold blks; rw [pK2_ids]; simp [blk1, pK2_r1, pK2_r2, blkF]
theorem pK2_v12 : viol pK2 (setM [2, 1]) = [] := by unfold viol; rw [pK2_L]; decide
theorem pK2_v1 : viol pK2 (setM [1]) ≠ [] := by unfold viol; rw [pK2_L]; decide
theorem pK3_b3 : blks pK3 (inL [3]) ≠ [] := by
  unfold blks; rw [pK3_ids]; simp [blk1, inL, pK3_r3, blkF]
theorem pK3_v123 : viol pK3 (setM [1, 2, 3]) = [⟨rcA, 1⟩] := by unfold viol; rw [pK3_L]; decide
theorem pK2_c21 : choE pK2 [2, 1] = 0 := by decide
theorem pK2_c1 : choE pK2 [1] = 0 := by decide
theorem pK3_c3 : choE pK3 [3] = 0 := by decide
theorem pK3_c123 : choE pK3 [1, 2, 3] = 0 := by decide
theorem pK2_B : PrbB pK2 := by unfold PrbB; decide
theorem pK3_B : PrbB pK3 := by unfold PrbB; decide
theorem kn_cnt : PCalls Tryz.prog 36 [.d (prbD pK2)] (.tup [intD 4, intD 2, intD 0]) := by
  have h := count_ok pK2 pK2_B pK2_E (by decide) (by decide)
  rw [pK2_S, smK_n, smK_f] at h; exact h
theorem kn_f21 : PCalls Tryz.prog 17 [.d (prbD pK2), .d (.sl none (([2, 1] : List Int).map intD))] (.tup [boolD true, intD 0]) := by
  have h := feasF_p pK2 [2, 1] pK2_B (by decide) (by decide) (by decide)
  rw [pK2_c21, pK2_b12, pK2_v12] at h; exact h
theorem kn_f1 : PCalls Tryz.prog 17 [.d (prbD pK2), .d (.sl none (([1] : List Int).map intD))] (.tup [boolD false, intD 0]) := by
  have h := feasF_p pK2 [1] pK2_B (by decide) (by decide) (by decide)
  rw [pK2_c1, decide_eq_false (fun h => pK2_v1 h.2.2)] at h; exact h
theorem kn_a3 : PCalls Tryz.prog 15 [.d (prbD pK3), .d (.sl none (([3] : List Int).map intD))] (.tup [boolD false, intD 0]) := by
  have h := admF_p pK3 [3] pK3_B (by decide) (by decide) (by decide)
  rw [pK3_c3, decide_eq_false (fun h => pK3_b3 h.2)] at h; exact h
theorem kn_v : PCalls Tryz.prog 24 [.d (prbD pK3), .d (.sl none (([1, 2, 3] : List Int).map intD))] (.tup [.sl none (([⟨rcA, 1⟩] : List Roo).map rooD), intD 0]) := by
  have h := violF_p pK3 [1, 2, 3] pK3_B (by decide)
  rw [pK3_c123, if_pos rfl, pK3_v123] at h; exact h
theorem snap_prb {hp : Hp} {bl : List Nat} {f n k : Nat} {t : TypeId} (p : Prb) (ho : hget hp f 0 = some (.rowD t k (p.it.map itmD))) (hb : memB f bl = true) (hn : n = p.it.length) : Snap hp bl (.agg [.d (.sl none (p.ro.map rooD)), .own f 0 n]) (prbD p) := by
  refine .agg rfl (by simp [D.one]) fun j a c ha hc => ?_
  match j, ha, hc with
  | 0, ha, hc => injection ha with ha; injection hc with hc; subst ha hc; exact .d
  | 1, ha, hc => injection ha with ha; injection hc with hc; subst ha hc; exact .own ho hb (by rw [List.length_map]; omega) (List.take_of_length_le (by rw [List.length_map]; omega))
end Go.Proofs.YtnamabifclidmaaGreat
