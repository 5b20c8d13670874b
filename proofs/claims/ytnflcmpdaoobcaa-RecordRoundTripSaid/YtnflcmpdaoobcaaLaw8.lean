/- The walk of RecordScan. -/
import Derived.Test.YtnflcmpdaoobcaaScanP
import Derived.Test.YtnflcmpdaoobcaaScanLaw
namespace Go.Proofs.Ytnflcmpdaoobcaa
open Go.RowKit

/-- The rounds of the law: index, offset. -/
def stepS (q : Nat × Nat) (x : Nat × List UInt8) : (Nat × Nat) × Bool := ((q.1 + 1, q.2 + 8 + x.2.length), true)
theorem next_len {b p : List UInt8} {i x y : Nat} (hx : nextL (b.drop i) = (p, x, y)) (hz : (y : Int) = 0) : x = 8 + p.length := by
  have h := next_size (b.drop i) (by rw [hx]; show y = 0; omega)
  rw [hx] at h
  exact h.2.2
theorem allL_cases (b : List UInt8) (f i : Nat) : allL b (f + 1) i = [] ∧ (∀ g, b.length ≤ i + g → (scanL g (b.drop i)).1 = [] ∧ (scanL g (b.drop i)).2.1 = 0) ∨
    ∃ p, i < b.length ∧ i + (8 + p.length) ≤ b.length ∧ allL b (f + 1) i = (i, p) :: allL b f (i + (8 + p.length)) ∧ ∀ g, b.length ≤ i + g → (scanL g (b.drop i)).1 = p :: (scanL (g - 1) (b.drop (i + (8 + p.length)))).1 ∧ (scanL g (b.drop i)).2.1 = 8 + p.length + (scanL (g - 1) (b.drop (i + (8 + p.length)))).2.1 := by
  by_cases hi : i < b.length
  · have hxy0 : ∃ p x y, nextL (b.drop i) = (p, x, y) := ⟨_, _, _, rfl⟩
    obtain ⟨p, x, y, hx⟩ := hxy0
    have hl : ¬ (b.drop i).length = 0 := by rw [List.length_drop]; omega
    by_cases hy : (y : Int) = 0
    · have h1 := next_len hx hy
      have h2 := next_size3 hx hy
      subst h1
      refine .inr ⟨p, hi, by omega, allL_next hx hi hy, fun g hg => ?_⟩
      have hg' : g = (g - 1) + 1 := by omega
      have hy' : y = 0 := by omega
      have hd : scanL g (b.drop i) = (p :: (scanL (g - 1) (b.drop (i + (8 + p.length)))).1, 8 + p.length + (scanL (g - 1) (b.drop (i + (8 + p.length)))).2.1, (scanL (g - 1) (b.drop (i + (8 + p.length)))).2.2) := by
        rw [hg', scanL, if_neg hl, hx]
        simp only [hy', if_true, List.drop_drop, Nat.add_sub_cancel]
      rw [hd]; exact ⟨rfl, rfl⟩
    · refine .inl ⟨allL_err hx hy, fun g hg => ?_⟩
      have hg' : g = (g - 1) + 1 := by omega
      have hy' : ¬ y = 0 := by omega
      rw [hg', scanL, if_neg hl, hx]
      simp only [hy', if_false, and_self]
  · refine .inl ⟨allL_end hi, fun g hg => ?_⟩
    have hl : (b.drop i).length = 0 := by rw [List.length_drop]; omega
    cases g with
    | zero => exact ⟨rfl, rfl⟩
    | succ g => rw [scanL, if_pos hl]; exact ⟨rfl, rfl⟩
theorem feeds_scan {P : Program} {l : Nat} {H : Nat × Nat → Hp} {b : List UInt8} {LS : List (List UInt8)}
    (hY : ∀ k off p, k < LS.length → LS[k]? = some p → off + 8 + p.length ≤ b.length → YCalls P l (encAP (off, p)) (H (k, off)) fun v H' => v = .d (.raw (.bool true)) ∧ H' = H (k + 1, off + 8 + p.length)) :
    ∀ f i g (pre : List (List UInt8)), b.length ≤ i + g → LS = pre ++ (scanL g (b.drop i)).1 → Feeds P l encAP H stepS (pre.length, i) (allL b f i)
  | 0, i, g, pre, hg, h => trivial
  | f + 1, i, g, pre, hg, h => by
    rcases allL_cases b f i with ⟨h1, _⟩ | ⟨p, h1, h1', h2, h3⟩
    · rw [h1]; trivial
    · rw [h2]
      obtain ⟨h4, h5⟩ := h3 g hg
      rw [h4] at h
      refine ⟨hY pre.length i p (by rw [h]; simp) (by rw [h]; simp) (by omega), fun _ => ?_⟩
      have := feeds_scan hY f (i + (8 + p.length)) (g - 1) (pre ++ [p]) (by omega) (by rw [h]; simp)
      rw [List.length_append] at this
      have e : i + 8 + p.length = i + (8 + p.length) := by omega
      show Feeds P l encAP H stepS (pre.length + 1, i + 8 + p.length) _
      rw [e]; exact this
theorem feed_scan {b : List UInt8} : ∀ f i g k, b.length < i + f → b.length ≤ i + g → feed stepS (k, i) (allL b f i) = (k + (scanL g (b.drop i)).1.length, i + (scanL g (b.drop i)).2.1)
  | 0, i, g, k, hf, hg => by
    have hl : (b.drop i).length = 0 := by rw [List.length_drop]; omega
    cases g with
    | zero => rfl
    | succ g => rw [scanL, if_pos hl]; rfl
  | f + 1, i, g, k, hf, hg => by
    rcases allL_cases b f i with ⟨h1, h2⟩ | ⟨p, h1, h1', h2, h3⟩
    · obtain ⟨h4, h5⟩ := h2 g hg
      rw [h1, h4, h5]; rfl
    · obtain ⟨h4, h5⟩ := h3 g hg
      rw [h2, h4, h5, feed_cons]
      have := feed_scan (b := b) f (i + (8 + p.length)) (g - 1) (k + 1) (by omega) (by omega)
      have e : i + 8 + p.length = i + (8 + p.length) := by omega
      show (if true = true then feed stepS (k + 1, i + 8 + p.length) _ else _) = _
      rw [if_pos rfl, e, this]
      simp only [List.length_cons, Prod.mk.injEq]
      omega

theorem scan_len : ∀ (g : Nat) (b : List UInt8), (scanL g b).1.length ≤ b.length
  | 0, b => Nat.zero_le _
  | g + 1, b => by
    unfold scanL
    split
    · exact Nat.zero_le _
    · split
      · rename_i hz
        have h1 := next_size b hz
        have h2 := scan_len g (b.drop (nextL b).2.1)
        rw [List.length_drop] at h2
        simp only [List.length_cons]
        omega
      · exact Nat.zero_le _
abbrev hhS (b : List UInt8) (q : Nat × Nat) : Hp := [(4, [.blk 3 [.d (.raw (.int .i64 (q.2 : Int)))]]), (3, [.blk 3 [.d (.raw (.int .i64 (q.1 : Int)))]]), (2, [.blk 29 [.d (.sl none ((scanL b.length b).1.map bytesD))]]), (1, [.blk 4 [.d (.raw (.bool false))]])]
theorem law8_p (l0 : List UInt8) (h0 : l0.length ≤ maxLen) : PCalls Try.prog 10 [.d (bytesD l0)] (.raw (.bool true)) := by
  unfold maxLen at h0
  refine a_enterR Try.func10 rfl rfl Try.ntmps10 rfl rfl rfl fun F hF hFl => ?_
  refine a_seq ?_
  refine a_region ?_
  refine Estep.go (st_alloc 1 zl4 rfl rfl rfl rfl) ?_
  refine o_nil ?_
  refine a_seq ?_
  refine a_region ?_
  refine Pstep.go (st_move rfl rfl) ?_
  refine Pstep.go (st_move rfl rfl) ?_
  first | refine Pstep.go (st_lenMap rfl Try.underlying22 rfl) ?_ | refine Pstep.go (st_lenD rfl rfl Try.underlying22 rfl) ?_ | refine Pstep.go (st_lenO rfl Try.underlying22 rfl) ?_ | refine Pstep.go (st_lenSL rfl Try.underlying22 rfl) ?_ | refine Pstep.go (st_lenS rfl Try.underlying22 rfl) ?_
  obtain ⟨m, hm, hm1, hm2⟩ : ∃ m : Nat, (if (3000 : Int) < (l0.length : Int) then (3000 : Int) else (l0.length : Int)) = (m : Int) ∧ m ≤ l0.length ∧ m ≤ 3000 := ⟨min l0.length 3000, by omega, by omega, by omega⟩
  have hml : (l0.take m).length ≤ 3000 := by rw [List.length_take]; omega
  have hLS : (scanL (l0.take m).length (l0.take m)).1.length ≤ 3000 := Nat.le_trans (scan_len _ _) hml
  refine Pstep.go (st_min rfl rfl (hm) rfl) ?_
  first | refine Pstep.go (st_sliceHi (m) rfl rfl rfl (by rw [List.length_map]; exact hm1) Try.underlying22 sz5 (by simp [D.cells, byteD]) (List.map_take.symm) rfl) ?_ | refine Pstep.go (st_sliceO (m) rfl rfl rfl (by rw [List.length_map]; exact hm1) rfl Try.underlying22 sz5 rfl) ?_
  refine Pstep.go (st_assign rfl rfl) ?_
  refine o_nil ?_
  refine a_seq ?_
  refine a_seq ?_
  refine a_region ?_
  refine Pstep.go (st_callP (known_p) rfl rfl) ?_
  first | refine Pstep.go (st_notP rfl rfl) ?_ | refine Pstep.go (st_not rfl rfl) ?_
  refine o_nil ?_
  refine a_false rfl (rfl) ?_
  refine a_skip ?_
  refine a_seq ?_
  refine a_region ?_
  refine Pstep.go (st_move rfl rfl) ?_
  refine Pstep.go (st_callP (scan_p (l0.take m) (by omega)) rfl rfl) ?_
  refine Pstep.go (st_move rfl rfl) ?_
  first | refine Pstep.go (st_extractD rfl rfl rfl) ?_ | refine Pstep.go (st_extract rfl rfl rfl) ?_
  first | refine Pstep.go (st_extractD rfl rfl rfl) ?_ | refine Pstep.go (st_extract rfl rfl rfl) ?_
  first | refine Pstep.go (st_extractD rfl rfl rfl) ?_ | refine Pstep.go (st_extract rfl rfl rfl) ?_
  refine Pstep.go (st_assign rfl rfl) ?_
  refine Pstep.go (st_assign rfl rfl) ?_
  refine Pstep.go (st_assign rfl rfl) ?_
  refine o_nil ?_
  refine a_seq ?_
  refine a_region ?_
  refine Pstep.go (st_move rfl rfl) ?_
  refine Pstep.go (st_callP (refscan_p (l0.take m) (by omega)) rfl rfl) ?_
  refine Pstep.go (st_move rfl rfl) ?_
  first | refine Pstep.go (st_extractD rfl rfl rfl) ?_ | refine Pstep.go (st_extract rfl rfl rfl) ?_
  first | refine Pstep.go (st_extractD rfl rfl rfl) ?_ | refine Pstep.go (st_extract rfl rfl rfl) ?_
  first | refine Pstep.go (st_extractD rfl rfl rfl) ?_ | refine Pstep.go (st_extract rfl rfl rfl) ?_
  refine Estep.go (st_alloc 2 zl29 rfl rfl rfl rfl) ?_
  refine Estep.go (st_storeP rfl rfl rfl rfl rfl rfl rfl sz29) ?_
  refine Pstep.go (st_assign rfl rfl) ?_
  refine Pstep.go (st_assign rfl rfl) ?_
  refine o_nil ?_
  refine a_seq ?_
  refine a_seq ?_
  refine a_region ?_
  refine Pstep.go (st_move rfl rfl) ?_
  first | refine Pstep.go (st_loadD1 rfl rfl on29 rfl) ?_ | refine Pstep.go (st_loadP rfl rfl rfl on29 rfl) ?_ | refine Pstep.go (st_loadR rfl rfl (rfl) rfl on29 rfl) ?_
  refine Pstep.go (st_callP (sames_p _ _ (by omega) (by omega)) rfl rfl) ?_
  first | refine Pstep.go (st_notP rfl rfl) ?_ | refine Pstep.go (st_not rfl rfl) ?_
  refine Pstep.go (st_move rfl rfl) ?_
  refine o_setF 36 rfl (by simp) ?_
  refine o_run rfl rfl rfl ?_
  refine Pstep.go (st_move rfl rfl) ?_
  refine o_run rfl rfl rfl ?_
  refine Pstep.go (st_move rfl rfl) ?_
  refine o_run rfl rfl rfl ?_
  first | refine Pstep.go (st_neq rfl rfl rfl) ?_ | refine Pstep.go (st_neqSL rfl rfl rfl) ?_ | refine Pstep.go (st_neqS rfl rfl rfl) ?_ | refine Pstep.go (st_neqB Try.underlying3 rfl rfl rfl) ?_ | refine Pstep.go (st_neqP Try.underlying3 rfl rfl rfl) ?_ | refine Pstep.go (st_neqN Try.underlying3 rfl rfl) ?_ | refine Pstep.go (st_neqF Try.underlying3 rfl rfl rfl) ?_ | refine Pstep.go (st_neqFN Try.underlying3 rfl rfl) ?_
  refine Pstep.go (st_pickF rfl rfl rfl rfl) ?_
  refine Pstep.go (st_move rfl rfl) ?_
  refine o_setF 41 rfl (by simp) ?_
  refine o_run rfl rfl rfl ?_
  refine Pstep.go (st_move rfl rfl) ?_
  refine o_run rfl rfl rfl ?_
  refine Pstep.go (st_move rfl rfl) ?_
  refine o_run rfl rfl rfl ?_
  first | refine Pstep.go (st_neq rfl rfl rfl) ?_ | refine Pstep.go (st_neqSL rfl rfl rfl) ?_ | refine Pstep.go (st_neqS rfl rfl rfl) ?_ | refine Pstep.go (st_neqB Try.underlying3 rfl rfl rfl) ?_ | refine Pstep.go (st_neqP Try.underlying3 rfl rfl rfl) ?_ | refine Pstep.go (st_neqN Try.underlying3 rfl rfl) ?_ | refine Pstep.go (st_neqF Try.underlying3 rfl rfl rfl) ?_ | refine Pstep.go (st_neqFN Try.underlying3 rfl rfl) ?_
  refine Pstep.go (st_pickF rfl rfl rfl rfl) ?_
  refine o_nil ?_
  refine a_false rfl (by simp) ?_
  refine a_skip ?_
  refine a_seq ?_
  refine a_region ?_
  refine Estep.go (st_alloc 3 zl3 rfl rfl rfl rfl) ?_
  refine Estep.go (st_alloc 4 zl3 rfl rfl rfl rfl) ?_
  refine Estep.go (st_storeP rfl rfl rfl rfl rfl rfl rfl sz3) ?_
  refine Estep.go (st_storeP rfl rfl rfl rfl rfl rfl rfl sz3) ?_
  refine o_nil ?_
  refine a_seq ?_
  refine a_seq ?_
  refine a_region ?_
  refine Pstep.go (st_move rfl rfl) ?_
  refine Estep.go (st_callD (all_c (l0.take m)) rfl [] trivial rfl rfl rfl rfl rfl rfl rfl rfl rfl) ?_
  refine o_nil ?_
  refine a_block ?_
  refine a_keep [2, 6, 7, 9, 10, 47] rfl ?_
  refine a_range (γ := Unit) hFl 900 rfl rfl rfl rfl rfl [1, 2, 3, 4] (CHr := hhS (l0.take m) (0, 0)) (fun _ => True) (fun _ => hhS (l0.take m) ((scanL (l0.take m).length (l0.take m)).1.length, (scanL (l0.take m).length (l0.take m)).2.1)) (fun _ => .ready) (fun _ => none) ⟨rfl, rfl, rfl, rfl, trivial⟩ rfl rfl rfl (fun _ => rfl) (fun _ => rfl) rfl (fun _ _ => by simp) (fun _ _ => ⟨rfl, rfl⟩) [4, 3, 2, 1] hF rfl rfl (fun _ _ => rfl) (fun l A B hA hB => ?_) (fun _ _ => ?_)
  · refine (seq1_c (l0.take m) (by omega) l (fun q : Nat × Nat => (900, [.loop ⟨l, 84, [(2, .ptr 1 0 0), (6, .ptr 2 0 0), (7, .d (.raw (.int .i64 ((scanL (l0.take m).length (l0.take m)).2.1 : Int)))), (9, .ptr 3 0 0), (10, .ptr 4 0 0), (47, .fn 35 [.d (.ptr (bytesD (l0.take m)))])], .ready, none, #[48, 49], A, B⟩]) :: hhS (l0.take m) q) [900, 4, 3, 2, 1] stepS (0, 0) (fun _ => rfl) (fun _ => rfl) (fun _ => rfl) ?_).mono (fun r H' ⟨e1, e2⟩ => ⟨e1, (), trivial, by rw [e2, feed_scan _ 0 (l0.take m).length 0 (by omega) (by omega)]; simp⟩)
    refine feeds_scan (LS := (scanL (l0.take m).length (l0.take m)).1) (fun k off p hk hp hle => ?_) ((l0.take m).length + 1) 0 (l0.take m).length [] (by omega) (by simp)
    refine yc_round (lf := 900) rfl rfl rfl rfl fun F hF hr => ?_
    show Awp _ _ A _ _
    rw [hA]
    refine a_seq ?_
    refine a_region ?_
    refine Pstep.go (st_assign rfl rfl) ?_
    refine o_nil ?_
    refine a_region ?_
    refine Pstep.go (st_assign rfl rfl) ?_
    refine o_nil ?_
    refine ⟨rfl, _, _, rfl, rfl, rfl, rfl, ?_⟩
    show Awp _ _ B _ _
    rw [hB]
    refine a_block ?_
    refine a_seq ?_
    refine a_seq ?_
    refine a_region ?_
    first | refine Pstep.go (st_loadD1 rfl rfl on3 rfl) ?_ | refine Pstep.go (st_loadP rfl rfl rfl on3 rfl) ?_ | refine Pstep.go (st_loadR rfl rfl (rfl) rfl on3 rfl) ?_
    first | refine Pstep.go (st_loadD1 rfl rfl on29 rfl) ?_ | refine Pstep.go (st_loadP rfl rfl rfl on29 rfl) ?_ | refine Pstep.go (st_loadR rfl rfl (rfl) rfl on29 rfl) ?_
    first | refine Pstep.go (st_lenMap rfl Try.underlying29 rfl) ?_ | refine Pstep.go (st_lenD rfl rfl Try.underlying29 rfl) ?_ | refine Pstep.go (st_lenO rfl Try.underlying29 rfl) ?_ | refine Pstep.go (st_lenSL rfl Try.underlying29 rfl) ?_ | refine Pstep.go (st_lenS rfl Try.underlying29 rfl) ?_
    refine Pstep.go (st_geq rfl rfl rfl) ?_
    refine Pstep.go (st_move rfl rfl) ?_
    refine o_setF 54 rfl (decide_eq_false (by show ¬ (((scanL (l0.take m).length (l0.take m)).1.length : Int) ≤ (k : Int)); omega)) ?_
    refine o_run rfl rfl rfl ?_
    refine Pstep.go (st_move rfl rfl) ?_
    refine o_run rfl rfl rfl ?_
    first | refine Pstep.go (st_loadD1 rfl rfl on3 rfl) ?_ | refine Pstep.go (st_loadP rfl rfl rfl on3 rfl) ?_ | refine Pstep.go (st_loadR rfl rfl (rfl) rfl on3 rfl) ?_
    refine o_run rfl rfl rfl ?_
    first | refine Pstep.go (st_neq rfl rfl rfl) ?_ | refine Pstep.go (st_neqSL rfl rfl rfl) ?_ | refine Pstep.go (st_neqS rfl rfl rfl) ?_ | refine Pstep.go (st_neqB Try.underlying3 rfl rfl rfl) ?_ | refine Pstep.go (st_neqP Try.underlying3 rfl rfl rfl) ?_ | refine Pstep.go (st_neqN Try.underlying3 rfl rfl) ?_ | refine Pstep.go (st_neqF Try.underlying3 rfl rfl rfl) ?_ | refine Pstep.go (st_neqFN Try.underlying3 rfl rfl) ?_
    refine Pstep.go (st_pickF rfl rfl rfl rfl) ?_
    refine Pstep.go (st_move rfl rfl) ?_
    refine o_setF 59 rfl (by simp) ?_
    refine o_run rfl rfl rfl ?_
    refine Pstep.go (st_move rfl rfl) ?_
    refine o_run rfl rfl rfl ?_
    first | refine Pstep.go (st_loadD1 rfl rfl on29 rfl) ?_ | refine Pstep.go (st_loadP rfl rfl rfl on29 rfl) ?_ | refine Pstep.go (st_loadR rfl rfl (rfl) rfl on29 rfl) ?_
    refine o_run rfl rfl rfl ?_
    first | refine Pstep.go (st_loadD1 rfl rfl on3 rfl) ?_ | refine Pstep.go (st_loadP rfl rfl rfl on3 rfl) ?_ | refine Pstep.go (st_loadR rfl rfl (rfl) rfl on3 rfl) ?_
    refine o_run rfl rfl rfl ?_
    first | refine Pstep.go (st_indexD (k) rfl rfl (rfl) (getb hk) Try.underlying29 rfl sz22 rfl) ?_ | refine Pstep.go (st_indexO (k) rfl rfl (rfl) (getb hk) rfl Try.underlying29 sz22 rfl) ?_
    refine o_run rfl rfl rfl ?_
    first | refine Pstep.go (st_loadD1 rfl rfl on22 rfl) ?_ | refine Pstep.go (st_loadP rfl rfl rfl on22 rfl) ?_ | refine Pstep.go (st_loadR rfl rfl (rfl) rfl on22 rfl) ?_
    refine o_run rfl rfl rfl ?_
    refine Pstep.go (st_callP (same_p p _ true (by rw [List.getElem?_eq_getElem hk] at hp; injection hp with hp; rw [hp]; simp)) rfl rfl) ?_
    refine o_run rfl rfl rfl ?_
    first | refine Pstep.go (st_notP rfl rfl) ?_ | refine Pstep.go (st_not rfl rfl) ?_
    refine Pstep.go (st_pickF rfl rfl rfl rfl) ?_
    refine o_nil ?_
    refine a_false rfl (by simp) ?_
    refine a_skip ?_
    refine a_drawn [[], [0], [], [2], [], [4], [2, 3, 4, 5], [0, 1], [0, 1, 2, 3, 4, 5, 6, 7]] mixed rfl ?_
    refine dws ?_
    first | refine d_pure [9] [3] rfl rfl (fun _ => gp_none (st_loadD1 rfl rfl on3 rfl)) ?_ | refine d_pure [9] [3] rfl rfl (fun _ => gp_none (st_loadP rfl rfl rfl on3 rfl)) ?_ | refine d_pure [9] [3] rfl rfl (fun _ => gp_none (st_loadR rfl rfl (rfl) rfl on3 rfl)) ?_
    first | refine d_pure [68] [] rfl rfl (fun _ => gp_none (st_add rfl rfl (wrapS (k + 1) (by omega)) rfl)) ?_ | refine d_pureA [68] rfl rfl (fun _ => gp_none (st_add rfl rfl (wrapS (k + 1) (by omega)) rfl)) ?_
    first | refine d_pure [10] [4] rfl rfl (fun _ => gp_none (st_loadD1 rfl rfl on3 rfl)) ?_ | refine d_pure [10] [4] rfl rfl (fun _ => gp_none (st_loadP rfl rfl rfl on3 rfl)) ?_ | refine d_pure [10] [4] rfl rfl (fun _ => gp_none (st_loadR rfl rfl (rfl) rfl on3 rfl)) ?_
    first | refine d_pure [70] [] rfl rfl (fun _ => gp_none (st_add rfl rfl (wrapS (off + 8) (by omega)) rfl)) ?_ | refine d_pureA [70] rfl rfl (fun _ => gp_none (st_add rfl rfl (wrapS (off + 8) (by omega)) rfl)) ?_
    first | refine d_pure [12] [] rfl rfl (fun _ => gp_none (st_move rfl rfl)) ?_ | refine d_pureA [12] rfl rfl (fun _ => gp_none (st_move rfl rfl)) ?_
    first | refine d_pure [72] [] rfl rfl (fun _ => gp_none (st_lenMap rfl Try.underlying22 rfl)) ?_ | refine d_pureA [72] rfl rfl (fun _ => gp_none (st_lenMap rfl Try.underlying22 rfl)) ?_ | refine d_pure [72] [] rfl rfl (fun _ => gp_none (st_lenD rfl rfl Try.underlying22 rfl)) ?_ | refine d_pureA [72] rfl rfl (fun _ => gp_none (st_lenD rfl rfl Try.underlying22 rfl)) ?_ | refine d_pure [72] [] rfl rfl (fun _ => gp_none (st_lenO rfl Try.underlying22 rfl)) ?_ | refine d_pureA [72] rfl rfl (fun _ => gp_none (st_lenO rfl Try.underlying22 rfl)) ?_ | refine d_pure [72] [] rfl rfl (fun _ => gp_none (st_lenSL rfl Try.underlying22 rfl)) ?_ | refine d_pureA [72] rfl rfl (fun _ => gp_none (st_lenSL rfl Try.underlying22 rfl)) ?_ | refine d_pure [72] [] rfl rfl (fun _ => gp_none (st_lenS rfl Try.underlying22 rfl)) ?_ | refine d_pureA [72] rfl rfl (fun _ => gp_none (st_lenS rfl Try.underlying22 rfl)) ?_
    first | refine d_pure [71, 73] [] rfl rfl (fun _ => gp_none (st_add rfl rfl (wrapS (off + 8 + p.length) (by omega)) rfl)) ?_ | refine d_pureA [71, 73] rfl rfl (fun _ => gp_none (st_add rfl rfl (wrapS (off + 8 + p.length) (by omega)) rfl)) ?_
    refine d_eff [9, 69] [3] [] rfl rfl (fun _ => ge_none (st_storeP rfl rfl rfl rfl rfl rfl rfl sz3)) (.inl ⟨rfl, rfl⟩) rfl rfl rfl rfl rfl ?_
    refine dwc 8 rfl rfl rfl ?_
    refine dw1 9 rfl rfl ?_
    refine Estep.go (st_storeP rfl rfl rfl rfl rfl rfl rfl sz3) ?_
    refine o_nil ⟨rfl, ?_⟩
    refine dwe ?_
    exact ⟨none, _, _, [900, 4, 3, 2, 1], _, rfl, rfl, rfl, rfl, rfl, rfl, rfl, rfl⟩
  · refine a_seq ?_
    refine a_region ?_
    first | refine Pstep.go (st_loadD1 rfl rfl on3 rfl) ?_ | refine Pstep.go (st_loadP rfl rfl rfl on3 rfl) ?_ | refine Pstep.go (st_loadR rfl rfl (rfl) rfl on3 rfl) ?_
    first | refine Pstep.go (st_loadD1 rfl rfl on29 rfl) ?_ | refine Pstep.go (st_loadP rfl rfl rfl on29 rfl) ?_ | refine Pstep.go (st_loadR rfl rfl (rfl) rfl on29 rfl) ?_
    first | refine Pstep.go (st_lenMap rfl Try.underlying29 rfl) ?_ | refine Pstep.go (st_lenD rfl rfl Try.underlying29 rfl) ?_ | refine Pstep.go (st_lenO rfl Try.underlying29 rfl) ?_ | refine Pstep.go (st_lenSL rfl Try.underlying29 rfl) ?_ | refine Pstep.go (st_lenS rfl Try.underlying29 rfl) ?_
    first | refine Pstep.go (st_eql rfl rfl rfl) ?_ | refine Pstep.go (st_eqlSL rfl rfl rfl) ?_ | refine Pstep.go (st_eqlS rfl rfl rfl) ?_ | refine Pstep.go (st_eqlB Try.underlying3 rfl rfl rfl) ?_ | refine Pstep.go (st_eqlP Try.underlying3 rfl rfl rfl) ?_ | refine Pstep.go (st_eqlN Try.underlying3 rfl rfl) ?_ | refine Pstep.go (st_eqlF Try.underlying3 rfl rfl rfl) ?_ | refine Pstep.go (st_eqlFN Try.underlying3 rfl rfl) ?_
    refine Pstep.go (st_move rfl rfl) ?_
    refine o_setT 79 rfl (by simp) ?_
    refine o_run rfl rfl rfl ?_
    first | refine Pstep.go (st_loadD1 rfl rfl on3 rfl) ?_ | refine Pstep.go (st_loadP rfl rfl rfl on3 rfl) ?_ | refine Pstep.go (st_loadR rfl rfl (rfl) rfl on3 rfl) ?_
    refine o_run rfl rfl rfl ?_
    refine Pstep.go (st_move rfl rfl) ?_
    refine o_run rfl rfl rfl ?_
    first | refine Pstep.go (st_eql rfl rfl rfl) ?_ | refine Pstep.go (st_eqlSL rfl rfl rfl) ?_ | refine Pstep.go (st_eqlS rfl rfl rfl) ?_ | refine Pstep.go (st_eqlB Try.underlying3 rfl rfl rfl) ?_ | refine Pstep.go (st_eqlP Try.underlying3 rfl rfl rfl) ?_ | refine Pstep.go (st_eqlN Try.underlying3 rfl rfl) ?_ | refine Pstep.go (st_eqlF Try.underlying3 rfl rfl rfl) ?_ | refine Pstep.go (st_eqlFN Try.underlying3 rfl rfl) ?_
    refine Pstep.go (st_pickT rfl rfl rfl rfl) ?_
    refine Estep.go (st_storeP rfl rfl rfl rfl rfl rfl rfl sz4) ?_
    refine o_nil ?_
    refine a_ret ?_
    exact ⟨_, [], [], res_of rfl, rfl, rfl, by simp, rfl⟩
end Go.Proofs.Ytnflcmpdaoobcaa
