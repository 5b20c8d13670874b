/- Layer 31: the reference's Condense. -/
import Derived.Test.YtgdppeobgefogaaMg23
namespace Go.Proofs.Ytgdppeobgefogaa
open Go.RowKit
theorem strict_one {l m : List Nat} (hl : l.Pairwise (· < ·)) (hm : m.Pairwise (· < ·)) (h : ∀ x, x ∈ l ↔ x ∈ m) : l = m := by
  induction l generalizing m with
  | nil => cases m with
    | nil => rfl
    | cons b m => exact by cases (h b).2 (List.mem_cons_self ..)
  | cons a l ih =>
    cases m with
    | nil => exact by cases (h a).1 (List.mem_cons_self ..)
    | cons b m =>
      rw [List.pairwise_cons] at hl hm
      have e : a = b := by
        rcases List.mem_cons.1 ((h a).1 (List.mem_cons_self ..)) with e | h1
        · exact e
        · rcases List.mem_cons.1 ((h b).2 (List.mem_cons_self ..)) with e | h2
          · exact e.symm
          · have := hl.1 b h2; have := hm.1 a h1; omega
      subst e;rw [ih hl.2 hm.2 fun x => ?_]
      constructor
      · intro hx;rcases List.mem_cons.1 ((h x).1 (List.mem_cons_of_mem _ hx)) with e | h1
        · have := hl.1 x hx; omega
        · exact h1
      · intro hx;rcases List.mem_cons.1 ((h x).2 (List.mem_cons_of_mem _ hx)) with e | h1
        · have := hm.1 x hx; omega
        · exact h1
theorem le_nth {l : List Nat} (hl : l.Pairwise (· ≤ ·)) {i j : Nat} (hij : i ≤ j) (hj : j < l.length) : nth l i ≤ nth l j := by
  rcases Nat.eq_or_lt_of_le hij with e | h
  · subst e; exact Nat.le_refl _
  · rw [Za4 (by omega), Za4 hj];exact List.pairwise_iff_getElem.1 hl i j (by omega) hj h
theorem cptK_strict {l : List Nat} (hl : l.Pairwise (· ≤ ·)) : (cptK l l.length).Pairwise (· < ·) := by
  unfold cptK;rw [List.pairwise_map];refine List.Pairwise.imp_of_mem (fun {i j} hi hj hij => ?_) (List.Pairwise.filter _ List.pairwise_lt_range);obtain ⟨hj1, hj2⟩ := List.mem_filter.1 hj;have hj1 := List.mem_range.1 hj1;rcases of_decide_eq_true hj2 with e | e
  · omega
  · have h1 := le_nth hl (i := i) (j := j - 1) (by omega) (by omega);have h2 := le_nth hl (i := j - 1) (j := j) (by omega) hj1;omega
theorem cptK_mem {l : List Nat} {x : Nat} : x ∈ cptK l l.length ↔ x ∈ l := by
  unfold cptK;rw [List.mem_map]
  constructor
  · rintro ⟨i, hi, rfl⟩;exact Zbj (List.mem_range.1 (List.mem_filter.1 hi).1)
  · intro hx;obtain ⟨i, hi, e⟩ := List.mem_iff_getElem.1 hx;obtain ⟨j, ⟨hj, hjx⟩, hm⟩ := exmin (fun j => j < l.length ∧ nth l j = x) i i ⟨hi, by rw [Za4 hi]; exact e⟩ (Nat.le_refl _);refine ⟨j, List.mem_filter.2 ⟨List.mem_range.2 hj, decide_eq_true ?_⟩, hjx⟩
    by_cases h0 : j = 0
    · exact .inl h0
    · refine .inr fun e2 => ?_;have := hm (j - 1) ⟨by omega, by rw [← e2, hjx]⟩;omega
theorem cptS_strict (l : List Nat) : (cptS l).Pairwise (· < ·) := cptK_strict (sortN_sorted l)
theorem cptS_mem {l : List Nat} {x : Nat} : x ∈ cptS l ↔ x ∈ l := by unfold cptS; rw [cptK_mem, (sortN_perm l).mem_iff]
def rcP (g : List (List Nat)) (c k : Nat) : Prop := (∃ x ∈ outT (noC g) g.length c, ∃ y ∈ outT (noC g) g.length k, y ∈ sucs g x) ∧ c ≠ k
noncomputable instance (g : List (List Nat)) (c k : Nat) : Decidable (rcP g c k) := Classical.propDecidable _
noncomputable def rcF (g : List (List Nat)) (m c : Nat) : List Nat := (List.range m).filter fun k => decide (rcP g c k)
theorem rcF_in {g : List (List Nat)} {m c : Nat} (h : rcP g c m) : rcF g (m + 1) c = rcF g m c ++ [m] := by
  unfold rcF; rw [List.range_succ, List.filter_append, List.filter_cons_of_pos (by simpa using h)]; rfl
theorem rcF_out {g : List (List Nat)} {m c : Nat} (h : ¬ rcP g c m) : rcF g (m + 1) c = rcF g m c := by
  unfold rcF; rw [List.range_succ, List.filter_append, List.filter_cons_of_neg (by simpa using h)]; simp
theorem rcF_len (g : List (List Nat)) (m c : Nat) : (rcF g m c).length ≤ m := by unfold rcF; exact Nat.le_trans (List.length_filter_le _ _) (by simp)
theorem rcF_cd {g : List (List Nat)} (hg : GT g) {c : Nat} (hc : c < cntC g) : rcF g (cntC g) c = cptS (cdE g c) := by
  refine strict_one (List.Pairwise.filter _ List.pairwise_lt_range) (cptS_strict _) fun x => ?_;have he := edG_mem (g := g) (of := noC g) (x := x) hc;rw [edG, grF_sucs hc] at he;unfold rcF;rw [cptS_mem, cdE, he, List.mem_filter, List.mem_range, decide_eq_true_iff]
  constructor
  · rintro ⟨_, ⟨a, ha, y, hy, hm⟩, hne⟩;obtain ⟨ha1, ha2⟩ := outT_mem.1 ha;obtain ⟨hy1, hy2⟩ := outT_mem.1 hy;exact ⟨a, ha1, ha2, y, hm, by omega, hy2⟩
  · rintro ⟨a, ha1, ha2, y, hm, hne, hy2⟩;have hy1 := hg.gb.suc ha1 hm;exact ⟨hy2 ▸ (cn_ex g hg).lt y hy1, ⟨a, outT_mem.2 ⟨ha1, ha2⟩, y, outT_mem.2 ⟨hy1, hy2⟩, hm⟩, by omega⟩
noncomputable def rcT (g : List (List Nat)) (i k c : Nat) : List Nat := if c = i then rcF g k c else if c < i then rcF g (cntC g) c else []
theorem rcT_at (g : List (List Nat)) (i k : Nat) : rcT g i k i = rcF g k i := if_pos rfl
theorem rcT_zero (g : List (List Nat)) : rcT g 0 0 = fun _ => [] := by
  funext c; unfold rcT
  split
  · rfl
  · rw [if_neg (by omega)]
theorem rcT_row (g : List (List Nat)) (i : Nat) : rcT g i (cntC g) = rcT g (i + 1) 0 := by
  funext c; unfold rcT
  by_cases h1 : c = i
  · subst h1; rw [if_pos rfl, if_neg (by omega), if_pos (by omega)]
  · rw [if_neg h1]
    by_cases h2 : c = i + 1
    · subst h2; rw [if_neg (by omega), if_pos rfl]; rfl
    · rw [if_neg h2]
      by_cases h3 : c < i
      · rw [if_pos h3, if_pos (by omega)]
      · rw [if_neg h3, if_neg (by omega)]
theorem rcT_step {g : List (List Nat)} {i k : Nat} (h : rcP g i k) : updF (rcT g i k) i (rcF g k i ++ [k]) = rcT g i (k + 1) := by
  funext c
  by_cases e : c = i
  · subst e; rw [ZaU, rcT_at, rcF_in h]
  · rw [ZaS e]; unfold rcT; rw [if_neg e, if_neg e]
theorem rcT_skip {g : List (List Nat)} {i k : Nat} (h : ¬ rcP g i k) : rcT g i k = rcT g i (k + 1) := by
  funext c
  by_cases e : c = i
  · subst e; rw [rcT_at, rcT_at, rcF_out h]
  · unfold rcT; rw [if_neg e, if_neg e]
theorem rcT_end {g : List (List Nat)} (hg : GT g) : grF (cntC g) (rcT g (cntC g) 0) = cdG g := by
  unfold cdG grF;refine List.map_congr_left fun c hc => ?_;have hc := List.mem_range.1 hc;unfold rcT;rw [if_neg (by omega), if_pos hc, rcF_cd hg hc]
def EA (g : List (List Nat)) (l m : List Nat) (a b : Nat) : Prop := (∃ x ∈ l.take a, ∃ y ∈ m, y ∈ sucs g x) ∨ ∃ y ∈ m.take b, y ∈ sucs g (nth l a)
noncomputable instance (g : List (List Nat)) (l m : List Nat) (a b : Nat) : Decidable (EA g l m a b) := Classical.propDecidable _
theorem ea_zero (g : List (List Nat)) (l m : List Nat) : ¬ EA g l m 0 0 := fun h => by
  rcases h with ⟨x, hx, _⟩ | ⟨y, hy, _⟩
  · simp at hx
  · simp at hy
theorem ea_T {g : List (List Nat)} {l m : List Nat} {a b : Nat} (hb : b < m.length) (h : EA g l m a b) : AV.d (boolD true) = AV.d (boolD (decide (EA g l m a (b + 1)))) := by
  rw [decide_eq_true (show EA g l m a (b + 1) from h.imp id fun ⟨y, hy, h2⟩ => ⟨y, by rw [take_nth hb]; exact List.mem_append_left _ hy, h2⟩)]
theorem ea_F {g : List (List Nat)} {l m : List Nat} {a b : Nat} (hb : b < m.length) (h : ¬ EA g l m a b) : AV.d (boolD (decide (nth m b ∈ sucs g (nth l a)))) = AV.d (boolD (decide (EA g l m a (b + 1)))) :=
  bdec ⟨fun hm => .inr ⟨nth m b, by rw [take_nth hb]; exact List.mem_append_right _ (List.mem_singleton.2 rfl), hm⟩, fun hE => by
    rcases hE with h1 | ⟨y, hy, h2⟩
    · exact (h (.inl h1)).elim
    · rw [take_nth hb] at hy;rcases List.mem_append.1 hy with hy | hy
      · exact (h (.inr ⟨y, hy, h2⟩)).elim
      · rw [List.mem_singleton.1 hy] at h2; exact h2⟩
theorem ea_row {g : List (List Nat)} {l m : List Nat} {a : Nat} (ha : a < l.length) : AV.d (boolD (decide (EA g l m a m.length))) = AV.d (boolD (decide (EA g l m (a + 1) 0))) :=
  bdec ⟨fun h => by
    rcases h with ⟨x, hx, h1⟩ | ⟨y, hy, h2⟩
    · exact .inl ⟨x, by rw [take_nth ha]; exact List.mem_append_left _ hx, h1⟩
    · rw [List.take_length] at hy
      exact .inl ⟨nth l a, by rw [take_nth ha]; exact List.mem_append_right _ (List.mem_singleton.2 rfl), y, hy, h2⟩, fun h => by
    rcases h with ⟨x, hx, y, hy, h1⟩ | ⟨y, hy, h2⟩
    · rw [take_nth ha] at hx;rcases List.mem_append.1 hx with hx | hx
      · exact .inl ⟨x, hx, y, hy, h1⟩
      · rw [List.mem_singleton.1 hx] at h1;exact .inr ⟨y, by rw [List.take_length]; exact hy, h1⟩
    · simp at hy⟩
theorem ea_end {g : List (List Nat)} {l m : List Nat} : EA g l m l.length 0 ↔ ∃ x ∈ l, ∃ y ∈ m, y ∈ sucs g x := by
  unfold EA;rw [List.take_length];exact ⟨fun h => h.elim id fun ⟨y, hy, _⟩ => by simp at hy, .inl⟩
set_option maxRecDepth 100000 in
set_option maxHeartbeats 1000000 in
theorem refcond_p (g : List (List Nat)) (hg : GT g) : PCalls Try.prog 28 [.d (grD g)] (grD (cdG g)) := by
  have hn := hg.gb.n;have hcl := cnt_le g hg;have hlc : (comC g).length = cntC g := Zbk _ _;have hend := rcT_end hg;have hrow := rcT_row g;have hgc : ∀ c, c < cntC g → ((comC g).map natsD)[c]? = some (natsD (outT (noC g) g.length c)) := fun c hc => comC_get hc
  obtain ⟨cnt, hcnt⟩ : ∃ cnt, cntC g = cnt := ⟨_, rfl⟩
  rw [hcnt] at hcl hlc hend hrow hgc;refine Za8 Try.func28 rfl rfl Try.ntmps28 rfl rfl rfl fun F hF => (Zag (Zae (goAs rfl rfl (Zaf (Zag (Zae (goMv rfl rfl (Zab.go (Zbl (refcom_p g hg) rfl rfl) ?_))))))));refine goAs rfl rfl (Zaf (Zag (Zae (goMv rfl rfl (Zab.go (Zaz rfl ((List.length_map ..).trans hlc) Try.underlying22 rfl) (Zaq.go (ZbJ 0 sl22 rfl rfl rfl (by omega) zd25 rfl rfl rfl rfl) (goAs rfl rfl (Zaf ?_))))))));refine Zag (Zag (a_weakRow 0 0 (rowH cnt (fun _ => none) (fun _ => [])) rfl (by rw [ZbC, List.length_replicate]) (nil_rowH cnt) ⟨one_nil _, one_rowH _ _ _⟩ rfl (a_multi 40 rfl rfl rfl (Zae (goAs rfl rfl (Zaf (Zap (ZaQ (α := Nat × MF × (Nat → Hd)) (fun q => ⟨83, [(0, .d (grD g)), (3, (.d (grD (comC g)))), (4, (.own 0 0 cnt)), (5, (.d (natD q.1)))], [(0, [.rowD 25 1 (rowH cnt q.2.2 (rcT g q.1 0))]), (40, [.multi q.2.1])]⟩) (fun q => q.1 ≤ cnt ∧ GRep q.2.1 cnt q.2.2 (rcT g q.1 0)) (fun q => cnt - q.1) ((0, fun _ => none, fun _ => none)) (⟨Nat.zero_le _, by rw [rcT_zero]; exact GRep.zero _⟩) (Zao hF [0, 40] rfl rfl ⟨rfl, rfl, rfl, rfl, trivial⟩) ?_))))))));rintro ⟨i, M, hs⟩ ⟨hi, hr⟩;dsimp only at hi hr ⊢;refine Zag (Zag (Zae (goMv rfl rfl (goMv rfl rfl (Zab.go (Zaz rfl ((List.length_map ..).trans hlc) Try.underlying22 rfl) ?_)))))
  first | refine Zab.go (ZaR rfl rfl rfl) ?_ | refine Zab.go (ZaM rfl rfl rfl) ?_
  refine Zaf ?_
  first | refine ZaP rfl (fun h18 => ?_) (fun h18 => ?_) | refine ZaD rfl (fun h18 => ?_) (fun h18 => ?_)
  · refine Zay (Zag (Zap (Zag ?_)));have hil : i < cnt := ZaZ h18
    obtain ⟨l, hle⟩ : ∃ l, outT (noC g) g.length i = l := ⟨_, rfl⟩
    have hgi := hgc i hil;rw [hle] at hgi;have hll := outT_len (noC g) g.length i;rw [hle] at hll;refine Zae (goAs rfl rfl (Zaf (Zap (ZaQ (α := Nat × MF × (Nat → Hd)) (fun q => ⟨83, [(0, .d (grD g)), (3, (.d (grD (comC g)))), (4, (.own 0 0 cnt)), (5, (.d (natD i))), (6, (.d (natD q.1)))], [(0, [.rowD 25 1 (rowH cnt q.2.2 (rcT g i q.1))]), (40, [.multi q.2.1])]⟩) (fun q => q.1 ≤ cnt ∧ GRep q.2.1 cnt q.2.2 (rcT g i q.1)) (fun q => cnt - q.1) ((0, M, hs)) (⟨Nat.zero_le _, hr⟩) (Zao hF [0, 40] rfl rfl ⟨rfl, rfl, rfl, rfl, rfl, trivial⟩) ?_))));rintro ⟨k, M, hs⟩ ⟨hk, hr⟩;dsimp only at hk hr ⊢;refine Zag (Zag (Zae (goMv rfl rfl (goMv rfl rfl (Zab.go (Zaz rfl ((List.length_map ..).trans hlc) Try.underlying22 rfl) ?_)))))
    first | refine Zab.go (ZaR rfl rfl rfl) ?_ | refine Zab.go (ZaM rfl rfl rfl) ?_
    refine Zaf ?_
    first | refine ZaP rfl (fun h24 => ?_) (fun h24 => ?_) | refine ZaD rfl (fun h24 => ?_) (fun h24 => ?_)
    · refine Zay (Zag (Zap (Zag ?_)));have hkl : k < cnt := ZaZ h24
      obtain ⟨m, hme⟩ : ∃ m, outT (noC g) g.length k = m := ⟨_, rfl⟩
      have hgk := hgc k hkl;rw [hme] at hgk;have hml := outT_len (noC g) g.length k;rw [hme] at hml;refine Zae (goAs rfl rfl ?_);refine Zaf (Zag (Zag (a_as 7 (.d (boolD (decide (EA g l m 0 0)))) rfl (by rw [decide_eq_false (ea_zero g l m)]) (Zae (goAs rfl rfl (Zaf (Zap (ZaQ (α := Nat) (fun a => ⟨83, [(0, .d (grD g)), (3, (.d (grD (comC g)))), (4, (.own 0 0 cnt)), (5, (.d (natD i))), (6, (.d (natD k))), (7, (.d (boolD (decide (EA g l m a 0))))), (8, (.d (natD a)))], [(0, [.rowD 25 1 (rowH cnt hs (rcT g i k))]), (40, [.multi M])]⟩) (fun a => a ≤ l.length) (fun a => l.length - a) (0) (Nat.zero_le _) (Zao hF [0, 40] rfl rfl ⟨rfl, rfl, rfl, rfl, rfl, rfl, rfl, trivial⟩) ?_))))))));intro a ha;refine Zag (Zag (Zae (goMv rfl rfl (goMv rfl rfl (goMv rfl rfl ?_)))))
      first | refine Zab.go (Zam (i) rfl rfl (rfl) (hgi) Try.underlying22 rfl sz25 rfl) ?_ | refine Zab.go (Zal (i) rfl rfl (rfl) (hgi) rfl Try.underlying22 sz25 rfl) ?_
      first | refine Zab.go (Zai rfl rfl on25 rfl) ?_ | refine Zab.go (Zak rfl rfl rfl on25 rfl) ?_ | refine Zab.go (Zaj rfl rfl (rfl) rfl on25 rfl) ?_
      refine Zab.go (Zaz rfl (List.length_map ..) Try.underlying25 rfl) ?_
      first | refine Zab.go (ZaR rfl rfl rfl) ?_ | refine Zab.go (ZaM rfl rfl rfl) ?_
      refine Zaf ?_
      first | refine ZaP rfl (fun h33 => ?_) (fun h33 => ?_) | refine ZaD rfl (fun h33 => ?_) (fun h33 => ?_)
      · refine Zay (Zag (Zap (Zag ?_)));have hal : a < l.length := ZaZ h33;have hax : nth l a < g.length := ((outT_mem (no := noC g) (n := g.length) (c := i)).1 (by rw [hle]; exact Zbj hal)).1;have hsl := hg.gb.len hax;refine Zae (goAs rfl rfl (Zaf (Zap (ZaQ (α := Nat) (fun b => ⟨83, [(0, .d (grD g)), (3, (.d (grD (comC g)))), (4, (.own 0 0 cnt)), (5, (.d (natD i))), (6, (.d (natD k))), (7, (.d (boolD (decide (EA g l m a b))))), (8, (.d (natD a))), (9, (.d (natD b)))], [(0, [.rowD 25 1 (rowH cnt hs (rcT g i k))]), (40, [.multi M])]⟩) (fun b => b ≤ m.length) (fun b => m.length - b) (0) (Nat.zero_le _) (Zao hF [0, 40] rfl rfl ⟨rfl, rfl, rfl, rfl, rfl, rfl, rfl, rfl, trivial⟩) ?_))));intro b hb;refine Zag (Zag (Zae (goMv rfl rfl (goMv rfl rfl (goMv rfl rfl ?_)))))
        first | refine Zab.go (Zam (k) rfl rfl (rfl) (hgk) Try.underlying22 rfl sz25 rfl) ?_ | refine Zab.go (Zal (k) rfl rfl (rfl) (hgk) rfl Try.underlying22 sz25 rfl) ?_
        first | refine Zab.go (Zai rfl rfl on25 rfl) ?_ | refine Zab.go (Zak rfl rfl rfl on25 rfl) ?_ | refine Zab.go (Zaj rfl rfl (rfl) rfl on25 rfl) ?_
        refine Zab.go (Zaz rfl (List.length_map ..) Try.underlying25 rfl) ?_
        first | refine Zab.go (ZaR rfl rfl rfl) ?_ | refine Zab.go (ZaM rfl rfl rfl) ?_
        refine Zaf ?_
        first | refine ZaP rfl (fun h42 => ?_) (fun h42 => ?_) | refine ZaD rfl (fun h42 => ?_) (fun h42 => ?_)
        · refine Zay (Zag (Zap ?_));have hbl : b < m.length := ZaZ h42;refine Za9 [[], [0], [0, 1], [0, 1], [0, 1], [0, 1, 3, 4], [0, 1, 3, 4, 5], [0, 1], [0, 1, 3, 4, 5, 6, 7], [0, 1, 3, 4, 5, 6, 7, 8], [0, 1, 2, 3, 4, 5, 6, 7, 8, 9], [0, 1, 2, 3, 4, 5, 6, 7, 8, 9, 10], [0, 1], [0, 1], [0, 1, 12, 13], [0, 1, 12, 13, 14], [0, 1], [0, 1, 12, 13, 14, 15, 16], [0, 1, 12, 13, 14, 15, 16, 17], [0, 1, 2, 3, 4, 5, 6, 7, 8, 9, 10, 11, 12, 13, 14, 15, 16, 17, 18], [0, 1, 2, 3, 4, 5, 6, 7, 8, 9, 10, 11, 12, 13, 14, 15, 16, 17, 18, 19], [0, 1, 2, 3, 4, 5, 6, 7, 8, 9, 10, 11, 12, 13, 14, 15, 16, 17, 18, 19, 20]] mixed rfl (dw1 1 rfl rfl (goMv rfl rfl (Zaf ⟨rfl, ?_⟩)));refine dw1 2 rfl rfl (goMv rfl rfl ?_)
          first | refine Zbm 46 rfl (fun h46 => ?_) (fun h46 => ?_) | refine Zbi 46 rfl (fun h46 => ?_) (fun h46 => ?_)
          · refine Zaf ⟨rfl, ?_⟩;refine dws (Zad [0, 46] [] rfl rfl (fun _ => ZaK rfl rfl rfl rfl) (Zad [3, 46] [] rfl rfl (fun _ => ZaK rfl rfl rfl rfl) (Zad [5, 46] [] rfl rfl (fun _ => ZaK rfl rfl rfl rfl) ?_)));refine Zad [48, 49, 46] [] rfl rfl (fun _ => ZaK rfl rfl rfl rfl) (Zad [50, 46] [] rfl rfl (fun _ => ZaK rfl rfl rfl rfl) (Zad [8, 46] [] rfl rfl (fun _ => ZaK rfl rfl rfl rfl) (Zad [51, 52, 46] [] rfl rfl (fun _ => ZaK rfl rfl rfl rfl) (Zad [53, 46] [] rfl rfl (fun _ => ZaK rfl rfl rfl rfl) (Zad [47, 54, 46] [] rfl rfl (fun _ => ZaK rfl rfl rfl rfl) (Zad [55, 46] [] rfl rfl (fun _ => ZaK rfl rfl rfl rfl) (Zad [3, 46] [] rfl rfl (fun _ => ZaK rfl rfl rfl rfl) (Zad [6, 46] [] rfl rfl (fun _ => ZaK rfl rfl rfl rfl) ?_))))))));refine Zad [57, 58, 46] [] rfl rfl (fun _ => ZaK rfl rfl rfl rfl) (Zad [59, 46] [] rfl rfl (fun _ => ZaK rfl rfl rfl rfl) (Zad [9, 46] [] rfl rfl (fun _ => ZaK rfl rfl rfl rfl) (Zad [60, 61, 46] [] rfl rfl (fun _ => ZaK rfl rfl rfl rfl) (Zad [62, 46] [] rfl rfl (fun _ => ZaK rfl rfl rfl rfl) (dwc 19 rfl rfl rfl (dw1 20 rfl rfl (Zav rfl rfl rfl rfl (Zaf ⟨rfl, ?_⟩))))))));refine dw1 21 rfl rfl (Zab.go (ZaX rfl rfl rfl rfl) (Zaf ⟨rfl, ?_⟩));refine dw1 22 rfl rfl (goAs rfl rfl (Zaf ⟨rfl, ?_⟩));refine dwe (a_as 7 (.d (boolD (decide (EA g l m a (b + 1))))) rfl (by first | exact ea_T hbl h46 | exact ea_F hbl h46) (Zae (goMv rfl rfl (Zab.go (ZaH rfl rfl (IntWalk.i64_in _ (by omega)) rfl) (goAs rfl rfl (Zaf ?_))))));exact ⟨b + 1, hbl, by omega, Zao hF [0, 40] rfl (rfl) ⟨rfl, rfl, rfl, rfl, rfl, rfl, rfl, rfl, trivial⟩⟩
          · refine Zaf ⟨rfl, ?_⟩;refine dws ?_
            first | refine Zad [0, 46] [] rfl rfl (fun _ => Zan rfl rfl rfl (Zah rfl rfl)) ?_ | refine Zac [0, 46] rfl rfl (fun _ => Zan rfl rfl rfl (Zah rfl rfl)) ?_
            first | refine Zad [3, 46] [] rfl rfl (fun _ => Zan rfl rfl rfl (Zah rfl rfl)) ?_ | refine Zac [3, 46] rfl rfl (fun _ => Zan rfl rfl rfl (Zah rfl rfl)) ?_
            first | refine Zad [5, 46] [] rfl rfl (fun _ => Zan rfl rfl rfl (Zah rfl rfl)) ?_ | refine Zac [5, 46] rfl rfl (fun _ => Zan rfl rfl rfl (Zah rfl rfl)) ?_
            first | refine Zad [48, 49, 46] [] rfl rfl (fun _ => Zan rfl rfl rfl (Zam (i) rfl rfl (rfl) (hgi) Try.underlying22 rfl sz25 rfl)) ?_ | refine Zac [48, 49, 46] rfl rfl (fun _ => Zan rfl rfl rfl (Zam (i) rfl rfl (rfl) (hgi) Try.underlying22 rfl sz25 rfl)) ?_ | refine Zad [48, 49, 46] [] rfl rfl (fun _ => Zan rfl rfl rfl (Zal (i) rfl rfl (rfl) (hgi) rfl Try.underlying22 sz25 rfl)) ?_ | refine Zac [48, 49, 46] rfl rfl (fun _ => Zan rfl rfl rfl (Zal (i) rfl rfl (rfl) (hgi) rfl Try.underlying22 sz25 rfl)) ?_
            first | refine Zad [50, 46] [] rfl rfl (fun _ => Zan rfl rfl rfl (Zai rfl rfl on25 rfl)) ?_ | refine Zac [50, 46] rfl rfl (fun _ => Zan rfl rfl rfl (Zai rfl rfl on25 rfl)) ?_ | refine Zad [50, 46] [] rfl rfl (fun _ => Zan rfl rfl rfl (Zak rfl rfl rfl on25 rfl)) ?_ | refine Zac [50, 46] rfl rfl (fun _ => Zan rfl rfl rfl (Zak rfl rfl rfl on25 rfl)) ?_ | refine Zad [50, 46] [] rfl rfl (fun _ => Zan rfl rfl rfl (Zaj rfl rfl (rfl) rfl on25 rfl)) ?_ | refine Zac [50, 46] rfl rfl (fun _ => Zan rfl rfl rfl (Zaj rfl rfl (rfl) rfl on25 rfl)) ?_
            first | refine Zad [8, 46] [] rfl rfl (fun _ => Zan rfl rfl rfl (Zah rfl rfl)) ?_ | refine Zac [8, 46] rfl rfl (fun _ => Zan rfl rfl rfl (Zah rfl rfl)) ?_
            first | refine Zad [51, 52, 46] [] rfl rfl (fun _ => Zan rfl rfl rfl (Zam (a) rfl rfl (rfl) (getn hal) Try.underlying25 rfl sz3 rfl)) ?_ | refine Zac [51, 52, 46] rfl rfl (fun _ => Zan rfl rfl rfl (Zam (a) rfl rfl (rfl) (getn hal) Try.underlying25 rfl sz3 rfl)) ?_ | refine Zad [51, 52, 46] [] rfl rfl (fun _ => Zan rfl rfl rfl (Zal (a) rfl rfl (rfl) (getn hal) rfl Try.underlying25 sz3 rfl)) ?_ | refine Zac [51, 52, 46] rfl rfl (fun _ => Zan rfl rfl rfl (Zal (a) rfl rfl (rfl) (getn hal) rfl Try.underlying25 sz3 rfl)) ?_
            first | refine Zad [53, 46] [] rfl rfl (fun _ => Zan rfl rfl rfl (Zai rfl rfl on3 rfl)) ?_ | refine Zac [53, 46] rfl rfl (fun _ => Zan rfl rfl rfl (Zai rfl rfl on3 rfl)) ?_ | refine Zad [53, 46] [] rfl rfl (fun _ => Zan rfl rfl rfl (Zak rfl rfl rfl on3 rfl)) ?_ | refine Zac [53, 46] rfl rfl (fun _ => Zan rfl rfl rfl (Zak rfl rfl rfl on3 rfl)) ?_ | refine Zad [53, 46] [] rfl rfl (fun _ => Zan rfl rfl rfl (Zaj rfl rfl (rfl) rfl on3 rfl)) ?_ | refine Zac [53, 46] rfl rfl (fun _ => Zan rfl rfl rfl (Zaj rfl rfl (rfl) rfl on3 rfl)) ?_
            first | refine Zad [47, 54, 46] [] rfl rfl (fun _ => Zan rfl rfl rfl (Zam (nth l a) rfl rfl (rfl) (getg hax) Try.underlying22 rfl sz25 rfl)) ?_ | refine Zac [47, 54, 46] rfl rfl (fun _ => Zan rfl rfl rfl (Zam (nth l a) rfl rfl (rfl) (getg hax) Try.underlying22 rfl sz25 rfl)) ?_ | refine Zad [47, 54, 46] [] rfl rfl (fun _ => Zan rfl rfl rfl (Zal (nth l a) rfl rfl (rfl) (getg hax) rfl Try.underlying22 sz25 rfl)) ?_ | refine Zac [47, 54, 46] rfl rfl (fun _ => Zan rfl rfl rfl (Zal (nth l a) rfl rfl (rfl) (getg hax) rfl Try.underlying22 sz25 rfl)) ?_
            first | refine Zad [55, 46] [] rfl rfl (fun _ => Zan rfl rfl rfl (Zai rfl rfl on25 rfl)) ?_ | refine Zac [55, 46] rfl rfl (fun _ => Zan rfl rfl rfl (Zai rfl rfl on25 rfl)) ?_ | refine Zad [55, 46] [] rfl rfl (fun _ => Zan rfl rfl rfl (Zak rfl rfl rfl on25 rfl)) ?_ | refine Zac [55, 46] rfl rfl (fun _ => Zan rfl rfl rfl (Zak rfl rfl rfl on25 rfl)) ?_ | refine Zad [55, 46] [] rfl rfl (fun _ => Zan rfl rfl rfl (Zaj rfl rfl (rfl) rfl on25 rfl)) ?_ | refine Zac [55, 46] rfl rfl (fun _ => Zan rfl rfl rfl (Zaj rfl rfl (rfl) rfl on25 rfl)) ?_
            first | refine Zad [3, 46] [] rfl rfl (fun _ => Zan rfl rfl rfl (Zah rfl rfl)) ?_ | refine Zac [3, 46] rfl rfl (fun _ => Zan rfl rfl rfl (Zah rfl rfl)) ?_
            first | refine Zad [6, 46] [] rfl rfl (fun _ => Zan rfl rfl rfl (Zah rfl rfl)) ?_ | refine Zac [6, 46] rfl rfl (fun _ => Zan rfl rfl rfl (Zah rfl rfl)) ?_
            first | refine Zad [57, 58, 46] [] rfl rfl (fun _ => Zan rfl rfl rfl (Zam (k) rfl rfl (rfl) (hgk) Try.underlying22 rfl sz25 rfl)) ?_ | refine Zac [57, 58, 46] rfl rfl (fun _ => Zan rfl rfl rfl (Zam (k) rfl rfl (rfl) (hgk) Try.underlying22 rfl sz25 rfl)) ?_ | refine Zad [57, 58, 46] [] rfl rfl (fun _ => Zan rfl rfl rfl (Zal (k) rfl rfl (rfl) (hgk) rfl Try.underlying22 sz25 rfl)) ?_ | refine Zac [57, 58, 46] rfl rfl (fun _ => Zan rfl rfl rfl (Zal (k) rfl rfl (rfl) (hgk) rfl Try.underlying22 sz25 rfl)) ?_
            first | refine Zad [59, 46] [] rfl rfl (fun _ => Zan rfl rfl rfl (Zai rfl rfl on25 rfl)) ?_ | refine Zac [59, 46] rfl rfl (fun _ => Zan rfl rfl rfl (Zai rfl rfl on25 rfl)) ?_ | refine Zad [59, 46] [] rfl rfl (fun _ => Zan rfl rfl rfl (Zak rfl rfl rfl on25 rfl)) ?_ | refine Zac [59, 46] rfl rfl (fun _ => Zan rfl rfl rfl (Zak rfl rfl rfl on25 rfl)) ?_ | refine Zad [59, 46] [] rfl rfl (fun _ => Zan rfl rfl rfl (Zaj rfl rfl (rfl) rfl on25 rfl)) ?_ | refine Zac [59, 46] rfl rfl (fun _ => Zan rfl rfl rfl (Zaj rfl rfl (rfl) rfl on25 rfl)) ?_
            first | refine Zad [9, 46] [] rfl rfl (fun _ => Zan rfl rfl rfl (Zah rfl rfl)) ?_ | refine Zac [9, 46] rfl rfl (fun _ => Zan rfl rfl rfl (Zah rfl rfl)) ?_
            first | refine Zad [60, 61, 46] [] rfl rfl (fun _ => Zan rfl rfl rfl (Zam (b) rfl rfl (rfl) (getn hbl) Try.underlying25 rfl sz3 rfl)) ?_ | refine Zac [60, 61, 46] rfl rfl (fun _ => Zan rfl rfl rfl (Zam (b) rfl rfl (rfl) (getn hbl) Try.underlying25 rfl sz3 rfl)) ?_ | refine Zad [60, 61, 46] [] rfl rfl (fun _ => Zan rfl rfl rfl (Zal (b) rfl rfl (rfl) (getn hbl) rfl Try.underlying25 sz3 rfl)) ?_ | refine Zac [60, 61, 46] rfl rfl (fun _ => Zan rfl rfl rfl (Zal (b) rfl rfl (rfl) (getn hbl) rfl Try.underlying25 sz3 rfl)) ?_
            first | refine Zad [62, 46] [] rfl rfl (fun _ => Zan rfl rfl rfl (Zai rfl rfl on3 rfl)) ?_ | refine Zac [62, 46] rfl rfl (fun _ => Zan rfl rfl rfl (Zai rfl rfl on3 rfl)) ?_ | refine Zad [62, 46] [] rfl rfl (fun _ => Zan rfl rfl rfl (Zak rfl rfl rfl on3 rfl)) ?_ | refine Zac [62, 46] rfl rfl (fun _ => Zan rfl rfl rfl (Zak rfl rfl rfl on3 rfl)) ?_ | refine Zad [62, 46] [] rfl rfl (fun _ => Zan rfl rfl rfl (Zaj rfl rfl (rfl) rfl on3 rfl)) ?_ | refine Zac [62, 46] rfl rfl (fun _ => Zan rfl rfl rfl (Zaj rfl rfl (rfl) rfl on3 rfl)) ?_
            refine dwc 19 rfl rfl rfl (dw1 20 rfl rfl (ZaC rfl rfl rfl (Zab.go (Zbl (hasN_p (sucs g (nth l a)) (nth m b) (by omega)) rfl rfl) (Zaf ⟨rfl, ?_⟩))));refine dw1 21 rfl rfl (Zab.go (Za2 rfl rfl rfl rfl) (Zaf ⟨rfl, ?_⟩));refine dw1 22 rfl rfl (goAs rfl rfl (Zaf ⟨rfl, ?_⟩));refine dwe (a_as 7 (.d (boolD (decide (EA g l m a (b + 1))))) rfl (by first | exact ea_T hbl h46 | exact ea_F hbl h46) (Zae (goMv rfl rfl (Zab.go (ZaH rfl rfl (IntWalk.i64_in _ (by omega)) rfl) (goAs rfl rfl (Zaf ?_))))));exact ⟨b + 1, hbl, by omega, Zao hF [0, 40] rfl (rfl) ⟨rfl, rfl, rfl, rfl, rfl, rfl, rfl, rfl, trivial⟩⟩
        · refine ZaJ ?_;have hbm : b = m.length := by have := h42; omega
          subst hbm;refine a_as 7 (.d (boolD (decide (EA g l m (a + 1) 0)))) rfl (ea_row hal) (Zae (goMv rfl rfl (Zab.go (ZaH rfl rfl (IntWalk.i64_in _ (by omega)) rfl) (goAs rfl rfl (Zaf ?_)))));exact ⟨a + 1, hal, by omega, Zao hF [0, 40] rfl (rfl) ⟨rfl, rfl, rfl, rfl, rfl, rfl, rfl, trivial⟩⟩
      · refine ZaJ (Zag ?_);have ham : a = l.length := by have := h33; omega
        subst ham;have hed : EA g l m l.length 0 ↔ ∃ x ∈ outT (noC g) g.length i, ∃ y ∈ outT (noC g) g.length k, y ∈ sucs g x := by rw [hle, hme]; exact ea_end
        refine Zae (goMv rfl rfl (goMv rfl rfl ?_))
        first | refine Zbm 67 rfl (fun h67 => ?_) (fun h67 => ?_) | refine Zbi 67 rfl (fun h67 => ?_) (fun h67 => ?_)
        · refine ZaC rfl rfl rfl (goMv rfl rfl (ZaC rfl rfl rfl (goMv rfl rfl (ZaC rfl rfl rfl ?_))))
          first | refine Zab.go (st_neq rfl rfl rfl) ?_ | refine Zab.go (ZbG rfl rfl rfl) ?_ | refine Zab.go (ZbI rfl rfl rfl) ?_ | refine Zab.go (ZbP Try.underlying3 rfl rfl rfl) ?_ | refine Zab.go (ZbN Try.underlying3 rfl rfl rfl) ?_ | refine Zab.go (st_neqN Try.underlying3 rfl rfl) ?_ | refine Zab.go (ZbO Try.underlying3 rfl rfl rfl) ?_ | refine Zab.go (st_neqFN Try.underlying3 rfl rfl) ?_
          refine Zab.go (ZaX rfl rfl rfl rfl) (Zaf ?_)
          first | refine ZaP rfl (fun h71 => ?_) (fun h71 => ?_) | refine ZaD rfl (fun h71 => ?_) (fun h71 => ?_)
          · have hin : rcP g i k := ⟨hed.1 h67, fun e => h71 (congrArg Int.ofNat e)⟩
            have hrl := rcF_len g k i;have hget := rowH_get (hs := hs) (ls := rcT g i k) hil;have hat := hr.at_ i hil;rw [rcT_at] at hget hat;refine Zae (goMv rfl rfl (goMv rfl rfl (goMv rfl rfl (goMv rfl rfl ?_))))
            first | refine Zab.go (Zam (i) rfl rfl (rfl) (hil) Try.underlying22 rfl sz25 rfl) ?_ | refine Zab.go (Zal (i) rfl rfl (rfl) (hil) rfl Try.underlying22 sz25 rfl) ?_
            first | refine Zab.go (Zai rfl rfl on25 rfl) ?_ | refine Zab.go (Zak rfl rfl rfl on25 rfl) ?_ | refine Zab.go (Zaj rfl rfl (hget) rfl on25 rfl) ?_
            refine goMv rfl rfl (Zaq.go (ZaL 21 sl25 rfl rfl rfl rfl rfl rfl rfl rfl) (Zaq.go (st_appH 77 60 40 hat rfl rfl (by rw [List.length_map]) rfl rfl rfl rfl rfl (ZbQ (emb := natD) (rcF g k i) [k] rfl rfl rfl rfl rfl rfl rfl rfl sl25 (by show ((rcF g k i).length + 1) * 8 ≤ _; omega) rfl rfl rfl rfl)) (o_absorbR 80 60 40 hF rfl rfl rfl (by rw [List.length_map]) (by simp) rfl rfl rfl rfl rfl rfl rfl (fun _ _ => rfl) fun b c hb hc => ?_)))
            first | refine Zab.go (Zam (i) rfl rfl (rfl) (hil) Try.underlying22 rfl sz25 rfl) ?_ | refine Zab.go (Zal (i) rfl rfl (rfl) (hil) rfl Try.underlying22 sz25 rfl) ?_
            refine Zaq.go (Za1 rfl rfl rfl rfl rfl (by rw [ZbC]; exact hil) (rowH_set (h := some (b, c))) rfl sz25) (Zaf (Zae (goMv rfl rfl (Zab.go (ZaH rfl rfl (IntWalk.i64_in _ (by omega)) rfl) (goAs rfl rfl (Zaf ?_))))));exact ⟨(k + 1, Zbu (mdelH M (hs i)) b (.row 3 1 c ((rcF g k i ++ [k]).map natD)), updF hs i (some (b, c))), ⟨hkl, by have := hr.app hil hb hc; rw [rcT_step hin] at this; exact this⟩, by show cnt - (k + 1) < cnt - k; omega, Zao hF [0, 40] rfl (by rw [rcT_step hin]; rfl) ⟨rfl, rfl, rfl, rfl, rfl, trivial⟩⟩
          · refine Zay (Zae (goMv rfl rfl (Zab.go (ZaH rfl rfl (IntWalk.i64_in _ (by omega)) rfl) (goAs rfl rfl (Zaf ?_)))));exact ⟨(k + 1, M, hs), ⟨hkl, by rw [← rcT_skip (fun hc => h71 (fun e => hc.2 (Int.ofNat.inj e)))]; exact hr⟩, by show cnt - (k + 1) < cnt - k; omega, Zao hF [0, 40] rfl (by rw [← rcT_skip (fun hc => h71 (fun e => hc.2 (Int.ofNat.inj e)))]; rfl) ⟨rfl, rfl, rfl, rfl, rfl, trivial⟩⟩
        · refine Zav rfl rfl rfl rfl (Zav rfl rfl rfl rfl (Zav rfl rfl rfl rfl ?_));refine Zab.go (Za2 rfl rfl rfl rfl) (Zaf (Zbv rfl rfl (Zay (Zae (goMv rfl rfl (Zab.go (ZaH rfl rfl (IntWalk.i64_in _ (by omega)) rfl) (goAs rfl rfl (Zaf ?_))))))));exact ⟨(k + 1, M, hs), ⟨hkl, by rw [← rcT_skip (fun hc => h67 (hed.2 hc.1))]; exact hr⟩, by show cnt - (k + 1) < cnt - k; omega, Zao hF [0, 40] rfl (by rw [← rcT_skip (fun hc => h67 (hed.2 hc.1))]; rfl) ⟨rfl, rfl, rfl, rfl, rfl, trivial⟩⟩
    · refine ZaJ ?_;have hkc : cnt = k := by have := h24; omega
      subst hkc;refine Zae (goMv rfl rfl (Zab.go (ZaH rfl rfl (IntWalk.i64_in _ (by omega)) rfl) (goAs rfl rfl (Zaf ?_))));exact ⟨(i + 1, M, hs), ⟨hil, by rw [← hrow]; exact hr⟩, by show cnt - (i + 1) < cnt - i; omega, Zao hF [0, 40] rfl (by rw [hrow]; rfl) ⟨rfl, rfl, rfl, rfl, trivial⟩⟩
  · refine ZaJ (Zag ?_);have hin : i = cnt := by have := h18; omega
    subst hin;refine a_melt 0 0 40 ((cdG g).map natsD) rfl rfl rfl rfl rfl (by rw [List.length_map, ← hend, Zbk, ZbC]) (hend ▸ hr.melt) ⟨one_rowH _ _ _, one_gr _⟩ rfl (Zbh (emb := natsD) 4 0 (cdG g) rfl rfl rfl (by rw [← hend, Zbk]) rfl rfl rfl (Zae (goMv rfl rfl (goAs rfl rfl (Zaf (Zbc ?_))))));exact ⟨_, [], [], ZaY rfl, rfl, rfl, rfl, rfl⟩
end Go.Proofs.Ytgdppeobgefogaa
