/- Layer 31: the cycle, plain laws of its search. -/
import Derived.Test.YtgdppeobgefogaaMg15
namespace Go.Proofs.Ytgdppeobgefogaa
open Go.RowKit

noncomputable def okS (g : List (List Nat)) (s u : Nat) : Prop := s ≤ u ∧ nth (noL g) u = nth (noL g) s
theorem revG_mem {g : List (List Nat)} {u v : Nat} (hv : v < g.length) : u ∈ sucs (revG g) v ↔ u < g.length ∧ v ∈ sucs g u := by
  rw [revG, grF_sucs hv];unfold revL;rw [List.mem_flatMap]
  constructor
  · rintro ⟨a, ha, hu⟩;obtain ⟨h1, rfl⟩ := List.mem_replicate.1 hu;exact ⟨List.mem_range.1 ha, List.count_pos_iff.1 (Nat.pos_of_ne_zero h1)⟩
  · rintro ⟨hu, hm⟩;exact ⟨u, List.mem_range.2 hu, List.mem_replicate.2 ⟨Nat.pos_iff_ne_zero.1 (List.count_pos_iff.2 hm), rfl⟩⟩
theorem revG_len (g : List (List Nat)) : (revG g).length = g.length := Zbt _ _
def cand (g : List (List Nat)) (no : List Nat) (s : Nat) (d : Nat → Nat) (m w : Nat) : Prop := s < w ∧ nth no w = nth no s ∧ d w = m
structure SS (no : List Nat) (g : List (List Nat)) (s : Nat) (d : Nat → Nat) (m : Nat) (l : List Nat) (o : Option Nat) : Prop where
  nn : o = none → ∀ w ∈ l, ¬ cand g no s d m w
  so : ∀ u, o = some u → u ∈ l ∧ cand g no s d m u ∧ ∀ w ∈ l, cand g no s d m w → u ≤ w
def encO : Option Nat → Int
  | none => -1
  | some u => (u : Int)
theorem ss_start {no : List Nat} {g : List (List Nat)} {s m : Nat} {d : Nat → Nat} : SS no g s d m [] none := ⟨fun _ w h => (by cases h), fun u h => (by cases h)⟩
theorem ss_skip {no : List Nat} {g : List (List Nat)} {s m : Nat} {d : Nat → Nat} {l : List Nat} {o : Option Nat} {x : Nat} (h : SS no g s d m l o) (hx : ¬ (cand g no s d m x ∧ ∀ u, o = some u → x < u)) : SS no g s d m (l ++ [x]) o := by
  refine ⟨fun e w hw => ?_, fun u e => ?_⟩
  · rcases List.mem_append.1 hw with hw | hw
    · exact h.nn e w hw
    · rw [List.mem_singleton.1 hw]; exact fun hc => hx ⟨hc, fun u e2 => by rw [e] at e2; cases e2⟩
  · obtain ⟨h1, h2, h3⟩ := h.so u e;refine ⟨List.mem_append_left _ h1, h2, fun w hw hc => ?_⟩;rcases List.mem_append.1 hw with hw | hw
    · exact h3 w hw hc
    · rw [List.mem_singleton.1 hw] at hc ⊢;rcases Nat.lt_or_ge x u with hl | hl
      · exact (hx ⟨hc, fun u' e' => by rw [e] at e'; injection e' with e'; omega⟩).elim
      · exact hl
theorem ss_take {no : List Nat} {g : List (List Nat)} {s m : Nat} {d : Nat → Nat} {l : List Nat} {o : Option Nat} {x : Nat} (h : SS no g s d m l o) (hc : cand g no s d m x) (ho : ∀ u, o = some u → x < u) : SS no g s d m (l ++ [x]) (some x) := by
  refine ⟨fun e => (by cases e), fun u e => ?_⟩;injection e with e
  subst e;refine ⟨by simp, hc, fun w hw hcw => ?_⟩;rcases List.mem_append.1 hw with hw | hw
  · cases o with
    | none => exact (h.nn rfl w hw hcw).elim
    | some u => have := (h.so u rfl).2.2 w hw hcw; have := ho u rfl; omega
  · rw [List.mem_singleton.1 hw]; exact Nat.le_refl _
structure PS (g : List (List Nat)) (s : Nat) (d : Nat → Nat) (L : Nat) (out : List Nat) : Prop where
  len : 1 ≤ out.length
  hd : nth out 0 = s
  lt : ∀ v ∈ out, v < g.length
  dl : ∀ j, j < out.length → d (nth out j) = L - j
  stp : ∀ j, j + 1 < out.length → nth out (j + 1) ∈ sucs g (nth out j) ∧ cand g (noL g) s d (L - (j + 1)) (nth out (j + 1)) ∧ ∀ w ∈ sucs g (nth out j), cand g (noL g) s d (L - (j + 1)) w → nth out (j + 1) ≤ w
theorem ps_start {g : List (List Nat)} {s : Nat} {d : Nat → Nat} (hs : s < g.length) : PS g s d (d s) [s] :=
  ⟨by simp, rfl, fun v hv => by rw [List.mem_singleton.1 hv]; exact hs, fun j hj => by have : j = 0 := by simpa using hj
                                                                                       subst this; rfl, fun j hj => by simp at hj⟩
theorem ps_next {g : List (List Nat)} (hg : GB g) {s : Nat} {d : Nat → Nat} {L : Nat} {out : List Nat} {u : Nat} (h : PS g s d L out) (hS : SS (noL g) g s d (L - out.length) (sucs g (nth out (out.length - 1))) (some u)) : PS g s d L (out ++ [u]) ∧ u < g.length := by
  obtain ⟨h1, h2, h3⟩ := hS.so u rfl;have hlen := h.len;have hv : nth out (out.length - 1) < g.length := h.lt _ (Zbs (by omega));have hu := hg.suc hv h1;have hlast : nth (out ++ [u]) out.length = u := by simp [nth]
  refine ⟨⟨by simp, by rw [nth_app (by omega)]; exact h.hd, fun v hv => (List.mem_append.1 hv).elim (h.lt v) fun e => by rw [List.mem_singleton.1 e]; exact hu, fun j hj => ?_, fun j hj => ?_⟩, hu⟩
  · rw [List.length_append, List.length_singleton] at hj
    by_cases e : j = out.length
    · subst e; rw [hlast]; exact h2.2.2
    · rw [nth_app (by omega)]; exact h.dl j (by omega)
  · rw [List.length_append, List.length_singleton] at hj
    by_cases e : j + 1 = out.length
    · rw [e, hlast, nth_app (by omega), show j = out.length - 1 by omega];exact ⟨h1, h2, h3⟩
    · rw [nth_app (by omega), nth_app (by omega)]; exact h.stp j (by omega)
theorem cand_ex {g : List (List Nat)} {s lim : Nat} {d : Nat → Nat} (hD : DS (revG g) (okS g s) s lim d) (hs : s < g.length) {v m : Nat} (hv : v < g.length) (hm : d v = m + 1) (h1 : 1 ≤ m) (hL : m < d s) : ∃ w ∈ sucs g v, cand g (noL g) s d m w := by
  have hlim := (hD.a v (by omega)).2;have hw := (hD.a v (by omega)).1;rw [hm] at hw;obtain ⟨hok, w, hww, hvw⟩ := hw
  have hwl : w < g.length := by
    rcases Nat.lt_or_ge w g.length with h | h
    · exact h
    · have : sucs (revG g) w = [] := by unfold sucs; rw [List.getD_eq_getElem?_getD, List.getElem?_eq_none (by rw [revG_len]; exact h)]; rfl
      rw [this] at hvw; cases hvw
  obtain ⟨e1, e2⟩ := hD.comp m w h1 (by omega) (.inr (by omega)) hww
  have e3 : d w = m := by
    rcases Nat.lt_or_ge (d w) m with hl | hl
    · have := hD.comp (d w + 1) v (by omega) (by omega) (.inr (by omega)) ⟨hok, w, (hD.a w e1).1, hvw⟩;omega
    · omega
  obtain ⟨k, rfl⟩ : ∃ k, m = k + 1 := ⟨m - 1, by omega⟩
  have hokw := hww.1;refine ⟨w, ((revG_mem hwl).1 hvw).2, ?_, hokw.2, e3⟩;rcases Nat.eq_or_lt_of_le hokw.1 with e | e
  · rw [← e] at e3; omega
  · exact e
structure CI (g : List (List Nat)) (i best : Nat) (out : List Nat) : Prop where
  b1 : 1 ≤ best ∧ best ≤ g.length + 1
  none : out = [] → best = g.length + 1
  some : out ≠ [] → ∃ s lim d, s < i ∧ DS (revG g) (okS g s) s lim d ∧ d s = best ∧ PS g s d best out ∧ out.length = best ∧ ∀ s', s' < s → ¬ Wk (revG g) (okS g s') s' best s'
  no : ∀ s, s < i → ∀ k, 1 ≤ k → k < best → ¬ Wk (revG g) (okS g s) s k s
theorem ci_zero (g : List (List Nat)) : CI g 0 (g.length + 1) [] := ⟨by omega, fun _ => rfl, fun h => absurd rfl h, fun s h => by omega⟩
theorem ci_skip {g : List (List Nat)} {i best : Nat} {out : List Nat} (h : CI g i best out) (hn : ∀ k, 1 ≤ k → k < best → ¬ Wk (revG g) (okS g i) i k i) : CI g (i + 1) best out := by
  refine ⟨h.b1, h.none, fun ho => ?_, fun s hs => ?_⟩
  · obtain ⟨s, lim, d, h1, h2⟩ := h.some ho;exact ⟨s, lim, d, by omega, h2⟩
  · by_cases e : s = i
    · subst e; exact hn
    · exact h.no s (by omega)
theorem ci_new {g : List (List Nat)} {i best : Nat} {out : List Nat} (h : CI g i best out) (hi : i < g.length) {d : Nat → Nat} (hD : DS (revG g) (okS g i) i (best - 1) d) (h0 : d i ≠ 0) {out' : List Nat} (hP : PS g i d (d i) out') (hl : out'.length = d i) : CI g (i + 1) (d i) out' := by
  have hle := (hD.a i h0).2;have hb := h.b1;refine ⟨by omega, fun e => by rw [e] at hl; simp at hl; omega, fun _ => ⟨i, best - 1, d, by omega, hD, rfl, hP, hl, fun s' hs' => h.no s' hs' (d i) (by omega) (by omega)⟩, fun s hs k h1 hk hw => ?_⟩
  by_cases e : s = i
  · subst e;have := (hD.comp k s h1 (by omega) (.inr (by omega)) hw).2;omega
  · exact h.no s (by omega) k h1 (by omega) hw
theorem ds_no {g : List (List Nat)} {i best : Nat} {d : Nat → Nat} (hD : DS (revG g) (okS g i) i (best - 1) d) (h0 : d i = 0) : ∀ k, 1 ≤ k → k < best → ¬ Wk (revG g) (okS g i) i k i := fun k h1 hk hw => (hD.comp k i h1 (by omega) (.inl h0) hw).1 h0
theorem ZbJ {g : List (List Nat)} {v : Nat} (hv : v < g.length) : nth (noL g) v = noC g v := by unfold noL; rw [Za6 (by simpa using hv)]; simp
theorem noL_len (g : List (List Nat)) : (noL g).length = g.length := by simp [noL]
theorem one_no {g : List (List Nat)} {i : Nat} (hi : i < g.length) (hl : (outT (noC g) g.length (noC g i)).length = 1) (hs : i ∉ sucs g i) : ∀ k, 1 ≤ k → ¬ Wk (revG g) (okS g i) i k i := by
  intro k h1 hw;obtain ⟨x, hx⟩ := List.length_eq_one_iff.1 hl
  have hm : ∀ v, v < g.length → noC g v = noC g i → v = x := fun v hv e => by
    have : v ∈ outT (noC g) g.length (noC g i) := List.mem_filter.2 ⟨List.mem_range.2 hv, decide_eq_true e⟩;rw [hx] at this; exact List.mem_singleton.1 this
  obtain ⟨m, rfl⟩ : ∃ m, k = m + 1 := ⟨k - 1, by omega⟩
  obtain ⟨_, v, hv, hvi⟩ := hw
  have hvl : v < g.length := by
    rcases Nat.lt_or_ge v g.length with h | h
    · exact h
    · have : sucs (revG g) v = [] := by unfold sucs; rw [List.getD_eq_getElem?_getD, List.getElem?_eq_none (by rw [revG_len]; exact h)]; rfl
      rw [this] at hvi; cases hvi
  have hvi2 := ((revG_mem hvl).1 hvi).2
  have e : v = i := by
    cases m with
    | zero => exact hv
    | succ m =>
      have := hv.1.2;rw [ZbJ hvl, ZbJ hi] at this;rw [hm v hvl this, hm i hi rfl]
  rw [e] at hvi2; exact hs hvi2
theorem idx_at {l : List Nat} {x k : Nat} (hk : k < l.length) (hx : x ∉ l.take k) (e : nth l k = x) : (k : Int) = (l.idxOf x : Int) := by
  have h1 : l = l.take k ++ l.drop k := (List.take_append_drop k l).symm;rw [h1, List.idxOf_append, if_neg hx, drop_nth hk, e, List.idxOf_cons_self, List.length_take];omega
set_option maxRecDepth 100000 in
theorem index_c (l : List Nat) (x : Nat) (hl : l.length ≤ 2000000) : ACalls Try.prog 46 [.d (natsD l), .d (natD x)] [] fun r H' => r = .d (intD (if x ∈ l then (l.idxOf x : Int) else -1)) ∧ H' = [] := by
  refine Zbf Try.func46 rfl rfl Try.ntmps46 rfl rfl rfl fun F hF => (Zag (Zae (goAs rfl rfl (Zaf ?_))));refine Zag (Zag (Zae (goMv rfl rfl (Zab.go (ZaD rfl (List.length_map ..) Try.underlying25 rfl) (goMv rfl rfl (Zaf (Zay (a_loop (α := Nat) (fun k => ⟨19, [(0, .d (natsD l)), (1, .d (natD x)), (7, (.d (natD l.length))), (8, (.d (natD k)))], []⟩) (fun k => k ≤ l.length ∧ x ∉ l.take k) (fun k => l.length - k) (0) (⟨Nat.zero_le _, by simp⟩) (ZbQ ⟨rfl, rfl, rfl, rfl, trivial⟩) ?_))))))));rintro k ⟨hk, hx⟩;refine Zag (Zae ?_)
  first | refine Zab.go (ZaY rfl rfl rfl) ?_ | refine Zab.go (ZaT rfl rfl rfl) ?_
  refine Zaf (Zag ?_)
  first | refine ZaU rfl (fun h9 => ?_) (fun h9 => ?_) | refine ZaF rfl (fun h9 => ?_) (fun h9 => ?_)
  · refine ZaC (Zag (Zay (Zag ?_)));have hkl : k < l.length := Za7 h9;refine Zae (goMv rfl rfl (goAs rfl rfl (Zaf (Zag (Zae (goMv rfl rfl (goMv rfl rfl (goMv rfl rfl ?_))))))))
    first | refine Zab.go (Zam (k) rfl rfl (rfl) (getn hkl) Try.underlying25 rfl sz3 rfl) ?_ | refine Zab.go (Zal (k) rfl rfl (rfl) (getn hkl) rfl Try.underlying25 sz3 rfl) ?_
    first | refine Zab.go (Zai rfl rfl on3 rfl) ?_ | refine Zab.go (Zak rfl rfl rfl on3 rfl) ?_ | refine Zab.go (Zaj rfl rfl (rfl) rfl on3 rfl) ?_
    first | refine Zab.go (Zby rfl rfl rfl) ?_ | refine Zab.go (Zbb rfl rfl rfl) ?_ | refine Zab.go (Zbk rfl rfl rfl) ?_ | refine Zab.go (Zbr Try.underlying3 rfl rfl rfl) ?_ | refine Zab.go (Zbo Try.underlying3 rfl rfl rfl) ?_ | refine Zab.go (Zbp Try.underlying3 rfl rfl) ?_ | refine Zab.go (Zbq Try.underlying3 rfl rfl rfl) ?_ | refine Zab.go (Zbc Try.underlying3 rfl rfl) ?_
    refine Zaf ?_
    first | refine ZaU rfl (fun h16 => ?_) (fun h16 => ?_) | refine ZaF rfl (fun h16 => ?_) (fun h16 => ?_)
    · refine Zag (Zae (goMv rfl rfl (goAs rfl rfl (Zaf (Zbg ?_)))));exact ⟨_, [], [], ZaZ rfl, rfl, rfl, eqv (congrArg intD (by rw [if_pos (Int.ofNat.inj h16 ▸ Zbs hkl), idx_at hkl hx (Int.ofNat.inj h16).symm])), rfl⟩
    · refine ZaC (Zae (Zab.go (ZaJ rfl rfl (IntWalk.i64_in _ (by omega)) rfl) (goMv rfl rfl (Zaf ?_))));exact ⟨k + 1, ⟨hkl, fun hm => by rw [List.take_succ_eq_append_getElem hkl] at hm; exact (List.mem_append.1 hm).elim hx fun e => h16 (by rw [List.mem_singleton.1 e, Za6 hkl])⟩, by omega, ⟨rfl, rfl, fun _ _ => Has.get (l := [(0, _), (1, _), (7, _), (8, _)]) ⟨rfl, rfl, rfl, rfl, trivial⟩⟩⟩
  · refine ZaL (Zag (Zae (goAs rfl rfl (Zaf (Zbg ?_)))));exact ⟨_, [], [], ZaZ rfl, rfl, rfl, eqv (congrArg intD (by rw [if_neg (by rw [← List.take_of_length_le (i := k) (l := l) (by have := h9; omega)]; exact hx)])), rfl⟩
set_option maxRecDepth 100000 in
theorem contains_p (l : List Nat) (x : Nat) (hl : l.length ≤ 2000000) : PCalls Try.prog 34 [.d (natsD l), .d (natD x)] (boolD (decide (x ∈ l))) := by
  refine Zbf Try.func34 rfl rfl Try.ntmps34 rfl rfl rfl fun F hF => (Zag (Zae (goAs rfl rfl (Zaf ?_))));refine Zag (Zae (goMv rfl rfl (goMv rfl rfl (Zab.go (Zba (index_c l x hl) rfl rfl) (Zab.go (st_geq rfl rfl rfl) (goAs rfl rfl (Zaf (Zbg ?_))))))));exact ⟨_, [], [], ZaZ rfl, rfl, rfl, bdec (by split <;> simp_all <;> omega), rfl⟩
end Go.Proofs.Ytgdppeobgefogaa
/- Layer 31: there is a numbering of the components. Plain laws. -/
namespace Go.Proofs.Ytgdppeobgefogaa
open Go.RowKit
theorem rep_ex (suc : Nat → List Nat) (v : Nat) : ∃ y, (Rh suc v y ∧ Rh suc y v) ∧ ∀ z, Rh suc v z ∧ Rh suc z v → y ≤ z := exmin (fun u => Rh suc v u ∧ Rh suc u v) v v ⟨.refl v, .refl v⟩ (Nat.le_refl _)
noncomputable def repF (suc : Nat → List Nat) (v : Nat) : Nat := Classical.choose (rep_ex suc v)
theorem repF_spec (suc : Nat → List Nat) (v : Nat) : (Rh suc v (repF suc v) ∧ Rh suc (repF suc v) v) ∧ ∀ z, Rh suc v z ∧ Rh suc z v → repF suc v ≤ z := Classical.choose_spec (rep_ex suc v)
theorem repF_eq {suc : Nat → List Nat} {i j : Nat} : repF suc i = repF suc j ↔ Rh suc i j ∧ Rh suc j i := by
  obtain ⟨h1, h2⟩ := repF_spec suc i;obtain ⟨h3, h4⟩ := repF_spec suc j
  constructor
  · intro e;rw [← e] at h3;exact ⟨h1.1.trans h3.2, h3.1.trans h1.2⟩
  · intro h;exact Nat.le_antisymm (h2 _ ⟨h.1.trans h3.1, h3.2.trans h.2⟩) (h4 _ ⟨h.2.trans h1.1, h1.2.trans h.1⟩)
theorem scc_ex (n : Nat) (suc : Nat → List Nat) : ∃ of cnt, SccOf n suc of cnt := by
  let reps := (List.range n).filter fun v => decide (repF suc v = v)
  have hnd : reps.Nodup := List.nodup_range.filter _;have hle : ∀ v, repF suc v ≤ v := fun v => (repF_spec suc v).2 v ⟨.refl v, .refl v⟩;have hid : ∀ v, repF suc (repF suc v) = repF suc v := fun v => repF_eq.2 ⟨(repF_spec suc v).1.2, (repF_spec suc v).1.1⟩;have hm : ∀ v, v < n → repF suc v ∈ reps := fun v hv => List.mem_filter.2 ⟨List.mem_range.2 (Nat.lt_of_le_of_lt (hle v) hv), decide_eq_true (hid v)⟩;refine ⟨fun v => reps.idxOf (repF suc v), reps.length, ⟨fun v hv => List.idxOf_lt_length_of_mem (hm v hv), fun i j hi hj => ?_, fun c hc => ?_, ?_⟩⟩
  · rw [← repF_eq]
    constructor
    · intro e;have e1 := List.getElem_idxOf (List.idxOf_lt_length_of_mem (hm i hi));have e2 := List.getElem_idxOf (List.idxOf_lt_length_of_mem (hm j hj));rw [← e1, ← e2];simp only [e]
    · intro e; show reps.idxOf (repF suc i) = reps.idxOf (repF suc j); rw [e]
  · obtain ⟨h1, h2⟩ := List.mem_filter.1 (List.getElem_mem hc);refine ⟨reps[c], List.mem_range.1 h1, ?_⟩;show reps.idxOf (repF suc reps[c]) = c;rw [of_decide_eq_true h2];exact hnd.idxOf_getElem c hc
  · have := List.length_filter_le (fun v => decide (repF suc v = v)) (List.range n);rw [List.length_range] at this;exact this
theorem cn_ex (g : List (List Nat)) (hg : GT g) : CN g.length (sucs g) (noC g) (cntC g) := by
  obtain ⟨of, cnt, h⟩ := scc_ex g.length (sucs g);exact (conC_of hg.gb (con_cn hg h)).1
end Go.Proofs.Ytgdppeobgefogaa
/- Layer 31: Cycle. -/
namespace Go.Proofs.Ytgdppeobgefogaa
open Go.RowKit

theorem revG_gb {g : List (List Nat)} (hg : GT g) : GB (revG g) := by
  refine ⟨by rw [revG_len]; exact hg.gb.n, fun l hl => ?_, fun l hl x hx => ?_⟩
  · obtain ⟨j, _, rfl⟩ := List.mem_map.1 hl
    have key : ∀ m, ((List.range m).flatMap fun a => List.replicate ((sucs g a).count j) a).length ≤ totG g m := by
      intro m
      induction m with
      | zero => exact Nat.zero_le _
      | succ m ih =>
        unfold totG at ih ⊢;rw [List.range_succ, List.flatMap_append, List.length_append, List.map_append, List.sum_append, List.flatMap_singleton, List.map_singleton, List.sum_singleton, List.length_replicate];exact Nat.add_le_add ih List.count_le_length
    exact Nat.le_trans (key g.length) hg.tot
  · obtain ⟨j, hj, rfl⟩ := List.mem_map.1 hl;rw [revG_len];have := (revG_mem (List.mem_range.1 hj) (u := x)).1 (by rw [revG, grF_sucs (List.mem_range.1 hj)]; exact hx);exact this.1
theorem getDl {n v : Nat} {d : Nat → Nat} (h : v < n) : (((List.range n).map d).map natD)[v]? = some (natD (d v)) := by rw [List.map_map]; exact ZaM h
theorem comC_get {g : List (List Nat)} {c : Nat} (hc : c < cntC g) : ((comC g).map natsD)[c]? = some (natsD (outT (noC g) g.length c)) := by
  rw [comC, getg (by rw [Zbt]; exact hc), grF_sucs hc]
theorem ss_some {g : List (List Nat)} {s lim : Nat} {d : Nat → Nat} {v m : Nat} {o : Option Nat} (hS : SS (noL g) g s d m (sucs g v) o) (he : ∃ w ∈ sucs g v, cand g (noL g) s d m w) : ∃ u, o = some u := by
  cases o with
  | some u => exact ⟨u, rfl⟩
  | none => obtain ⟨w, hw, hc⟩ := he; exact (hS.nn rfl w hw hc).elim
theorem enc_neg {o : Option Nat} {x : Nat} (h : encO o < 0) : ∀ u, o = some u → x < u := fun u e => by
  rw [e] at h; have h : (u : Int) < 0 := h; omega
theorem enc_lt {o : Option Nat} {x : Nat} (h : (x : Int) < encO o) : ∀ u, o = some u → x < u := fun u e => by
  rw [e] at h; exact Int.ofNat_lt.1 h
theorem enc_ge {o : Option Nat} {x : Nat} (h1 : ¬ encO o < 0) (h2 : ¬ (x : Int) < encO o) (h : ∀ u, o = some u → x < u) : False := by
  cases o with
  | none => exact h1 (by decide)
  | some u => exact h2 (Int.ofNat_lt.2 (h u rfl))
set_option maxRecDepth 100000 in
set_option maxHeartbeats 1000000 in
theorem cycle_c (g : List (List Nat)) (hg : GT g) : ACalls Try.prog 14 [.d (grD g)] [] fun r H' => ∃ best out, CI g g.length best out ∧ r = .d (.tup [natsD out, boolD (decide (out ≠ [])), intD 0]) ∧ H' = [] := by
  have hn := hg.gb.n;have hrg := revG_gb hg;have hrl := revG_len g;have hnl := noL_len g;have hcc := cn_ex g hg;refine Zbf Try.func14 rfl rfl Try.ntmps14 rfl rfl rfl fun F hF => (Zag (Zae (goAs rfl rfl (goAs rfl rfl (goAs rfl rfl (Zaf (Zag ?_)))))));refine Zag (Zae (goMv rfl rfl (Zab.go (Zba (check_n g hg) rfl rfl) (goAs rfl rfl (Zaf (Zag (Zae (goMv rfl rfl ?_))))))))
  first | refine Zab.go (st_neq rfl rfl rfl) ?_ | refine Zab.go (ZbA rfl rfl rfl) ?_ | refine Zab.go (ZbB rfl rfl rfl) ?_ | refine Zab.go (ZbE Try.underlying26 rfl rfl rfl) ?_ | refine Zab.go (ZbC Try.underlying26 rfl rfl rfl) ?_ | refine Zab.go (st_neqN Try.underlying26 rfl rfl) ?_ | refine Zab.go (ZbD Try.underlying26 rfl rfl rfl) ?_ | refine Zab.go (st_neqFN Try.underlying26 rfl rfl) ?_
  refine Zaf (Zbu rfl (decide_eq_false (by decide)) (ZaC (Zag (Zae (goMv rfl rfl (Zab.go (Zba (condensed_p g hg) rfl rfl) (goMv rfl rfl ?_)))))))
  first | refine Zab.go (ZaO rfl rfl rfl) ?_ | refine Zab.go (ZaP rfl rfl rfl) ?_
  first | refine Zab.go (ZaO rfl rfl rfl) ?_ | refine Zab.go (ZaP rfl rfl rfl) ?_
  refine goAs rfl rfl (goAs rfl rfl ?_);refine Zaf (Zag (Zae (goMv rfl rfl (Zab.go (Zba (reversed_p g hg.gb) rfl rfl) (goAs rfl rfl (Zaf (Zag (Zae ?_))))))));refine goMv rfl rfl (Zab.go (ZaD rfl (List.length_map ..) Try.underlying32 rfl) (Zab.go (ZaJ rfl rfl (IntWalk.i64_in _ (by omega)) rfl) (o_as 32 (.d (natD (g.length + 1))) rfl (eqv (congrArg intD (by omega))) (goAs rfl rfl (Zaf (Zag (Zae (goAs rfl rfl ?_))))))));refine Zaf (Zag (Zag (Zae (goMv rfl rfl (Zab.go (ZaD rfl (List.length_map ..) Try.underlying32 rfl) (goMv rfl rfl (Zaf (Zay ?_))))))));refine a_anyNil 10 rfl ?_;refine a_loop (α := Nat × Nat × List Nat) (fun q => ⟨132, [(0, .d (grD g)), (6, (.d (grD (comC g)))), (7, (.d (natsD (noL g)))), (8, (.d (grD (revG g)))), (9, (.d (natD q.2.1))), (10, (.d (natsD q.2.2))), (34, (.d (natD g.length))), (35, (.d (natD q.1)))], []⟩) (fun q => q.1 ≤ g.length ∧ CI g q.1 q.2.1 q.2.2) (fun q => g.length - q.1) ((0, g.length + 1, [])) (⟨Nat.zero_le _, ci_zero g⟩) (ZbQ ⟨rfl, rfl, rfl, rfl, rfl, rfl, rfl, rfl, trivial⟩) ?_;rintro ⟨i, best, out⟩ ⟨hi, hC⟩;dsimp only at hi hC ⊢;have hb1 := hC.b1;refine Zag (Zae ?_)
  first | refine Zab.go (ZaY rfl rfl rfl) ?_ | refine Zab.go (ZaT rfl rfl rfl) ?_
  refine Zaf (Zag ?_)
  first | refine ZaU rfl (fun h36 => ?_) (fun h36 => ?_) | refine ZaF rfl (fun h36 => ?_) (fun h36 => ?_)
  · refine ZaC (Zag (Zay (Zag ?_)));have hil : i < g.length := Za7 h36;have hgi := getn (l := noL g) (k := i) (by rw [hnl]; exact hil);have hsl := hg.gb.len hil;rw [ZbJ hil] at hgi;have hci : noC g i < cntC g := hcc.lt i hil;refine Zae ?_;refine goMv rfl rfl (goAs rfl rfl (Zaf (Zag (Zag (Zae (goMv rfl rfl (goMv rfl rfl (goMv rfl rfl ?_))))))))
    first | refine Zab.go (Zam (i) rfl rfl (rfl) (hgi) Try.underlying25 rfl sz3 rfl) ?_ | refine Zab.go (Zal (i) rfl rfl (rfl) (hgi) rfl Try.underlying25 sz3 rfl) ?_
    first | refine Zab.go (Zai rfl rfl on3 rfl) ?_ | refine Zab.go (Zak rfl rfl rfl on3 rfl) ?_ | refine Zab.go (Zaj rfl rfl (rfl) rfl on3 rfl) ?_
    first | refine Zab.go (Zam (noC g i) rfl rfl (rfl) (comC_get hci) Try.underlying22 rfl sz25 rfl) ?_ | refine Zab.go (Zal (noC g i) rfl rfl (rfl) (comC_get hci) rfl Try.underlying22 sz25 rfl) ?_
    first | refine Zab.go (Zai rfl rfl on25 rfl) ?_ | refine Zab.go (Zak rfl rfl rfl on25 rfl) ?_ | refine Zab.go (Zaj rfl rfl (rfl) rfl on25 rfl) ?_
    refine Zab.go (ZaD rfl (List.length_map ..) Try.underlying25 rfl) ?_
    first | refine Zab.go (Zby rfl rfl rfl) ?_ | refine Zab.go (Zbb rfl rfl rfl) ?_ | refine Zab.go (Zbk rfl rfl rfl) ?_ | refine Zab.go (Zbr Try.underlying3 rfl rfl rfl) ?_ | refine Zab.go (Zbo Try.underlying3 rfl rfl rfl) ?_ | refine Zab.go (Zbp Try.underlying3 rfl rfl) ?_ | refine Zab.go (Zbq Try.underlying3 rfl rfl rfl) ?_ | refine Zab.go (Zbc Try.underlying3 rfl rfl) ?_
    refine goMv rfl rfl ?_
    first | refine Zbw 47 rfl (fun h47 => ?_) (fun h47 => ?_) | refine Zbj 47 rfl (fun h47 => ?_) (fun h47 => ?_)
    · refine ZaH rfl rfl rfl (goMv rfl rfl (ZaH rfl rfl rfl (goMv rfl rfl (ZaH rfl rfl rfl ?_))))
      first | refine Zab.go (Zam (i) rfl rfl (rfl) (getg hil) Try.underlying32 rfl sz25 rfl) ?_ | refine Zab.go (Zal (i) rfl rfl (rfl) (getg hil) rfl Try.underlying32 sz25 rfl) ?_
      refine ZaH rfl rfl rfl ?_
      first | refine Zab.go (Zai rfl rfl on25 rfl) ?_ | refine Zab.go (Zak rfl rfl rfl on25 rfl) ?_ | refine Zab.go (Zaj rfl rfl (rfl) rfl on25 rfl) ?_
      refine ZaH rfl rfl rfl (goMv rfl rfl (ZaH rfl rfl rfl (Zab.go (Zba (contains_p (sucs g i) i (by omega)) rfl rfl) (ZaH rfl rfl rfl ?_))))
      first | refine Zab.go (st_notP rfl rfl) ?_ | refine Zab.go (st_not rfl rfl) ?_
      refine Zab.go (Za8 rfl rfl rfl rfl) (Zaf ?_)
      first | refine ZaU rfl (fun h55 => ?_) (fun h55 => ?_) | refine ZaF rfl (fun h55 => ?_) (fun h55 => ?_)
      · refine ZaL ?_
        first | (have hol2 : out.length = d i := (by have := h77; omega); refine Zbm (emb := natD) 10 3 out rfl rfl rfl rfl rfl rfl rfl ?_) | skip
        refine Zae (Zab.go (ZaJ rfl rfl (IntWalk.i64_in _ (by omega)) rfl) (goMv rfl rfl (Zaf ?_)));exact ⟨(i + 1, best, out), ⟨hil, ci_skip hC fun k h1 _ => one_no hil (Int.ofNat.inj h47) h55 k h1⟩, by show g.length - (i + 1) < g.length - i; omega, ⟨rfl, rfl, fun _ _ => Has.get (l := [(0, _), (6, _), (7, _), (8, _), (9, _), (10, _), (34, _), (35, _)]) ⟨rfl, rfl, rfl, rfl, rfl, rfl, rfl, rfl, trivial⟩⟩⟩
      · refine ZaC (Zag (Zae (goMv rfl rfl (goMv rfl rfl (goMv rfl rfl (goMv rfl rfl (Zab.go (Zbl rfl rfl (IntWalk.i64_in _ (by omega)) rfl) (o_as 60 (.d (natD (best - 1))) rfl (eqv (congrArg intD (by omega))) ?_))))))));refine o_step (st_callX (distances_c (revG g) hrg (noL g) (by rw [hnl, hrl]) i (by rw [hrl]; exact hil) (best - 1) (by omega)) rfl [] trivial rfl rfl rfl rfl (fun r H' ⟨d, h1, h2, h3⟩ => by subst h2 h3; exact ⟨rfl, rfl, rfl⟩) rfl) rfl ?_; rintro _ ⟨r, H', ⟨d, hD, rfl, rfl⟩, rfl⟩;refine goAs rfl rfl (Zaf (Zag (Zag (Zae (goMv rfl rfl (goMv rfl rfl ?_))))))
        first | refine Zab.go (Zam (i) rfl rfl (rfl) (getDl (by rw [hrl]; exact hil)) Try.underlying25 rfl sz3 rfl) ?_ | refine Zab.go (Zal (i) rfl rfl (rfl) (getDl (by rw [hrl]; exact hil)) rfl Try.underlying25 sz3 rfl) ?_
        first | refine Zab.go (Zai rfl rfl on3 rfl) ?_ | refine Zab.go (Zak rfl rfl rfl on3 rfl) ?_ | refine Zab.go (Zaj rfl rfl (rfl) rfl on3 rfl) ?_
        first | refine Zab.go (Zby rfl rfl rfl) ?_ | refine Zab.go (Zbb rfl rfl rfl) ?_ | refine Zab.go (Zbk rfl rfl rfl) ?_ | refine Zab.go (Zbr Try.underlying3 rfl rfl rfl) ?_ | refine Zab.go (Zbo Try.underlying3 rfl rfl rfl) ?_ | refine Zab.go (Zbp Try.underlying3 rfl rfl) ?_ | refine Zab.go (Zbq Try.underlying3 rfl rfl rfl) ?_ | refine Zab.go (Zbc Try.underlying3 rfl rfl) ?_
        refine Zaf ?_
        first | refine ZaU rfl (fun h66 => ?_) (fun h66 => ?_) | refine ZaF rfl (fun h66 => ?_) (fun h66 => ?_)
        · refine ZaL ?_
          first | (have hol2 : out.length = d i := (by have := h77; omega); refine Zbm (emb := natD) 10 3 out rfl rfl rfl rfl rfl rfl rfl ?_) | skip
          refine Zae (Zab.go (ZaJ rfl rfl (IntWalk.i64_in _ (by omega)) rfl) (goMv rfl rfl (Zaf ?_)));exact ⟨(i + 1, best, out), ⟨hil, ci_skip hC (ds_no hD (Int.ofNat.inj h66))⟩, by show g.length - (i + 1) < g.length - i; omega, ⟨rfl, rfl, fun _ _ => Has.get (l := [(0, _), (6, _), (7, _), (8, _), (9, _), (10, _), (34, _), (35, _)]) ⟨rfl, rfl, rfl, rfl, rfl, rfl, rfl, rfl, trivial⟩⟩⟩
        · refine ZaC (Zag ?_);have hd0 : d i ≠ 0 := fun e => h66 (congrArg Int.ofNat e);have hdi := (hD.a i hd0).2;refine Zae (goMv rfl rfl (goMv rfl rfl ?_))
          first | refine Zab.go (Zam (i) rfl rfl (rfl) (getDl (by rw [hrl]; exact hil)) Try.underlying25 rfl sz3 rfl) ?_ | refine Zab.go (Zal (i) rfl rfl (rfl) (getDl (by rw [hrl]; exact hil)) rfl Try.underlying25 sz3 rfl) ?_
          first | refine Zab.go (Zai rfl rfl on3 rfl) ?_ | refine Zab.go (Zak rfl rfl rfl on3 rfl) ?_ | refine Zab.go (Zaj rfl rfl (rfl) rfl on3 rfl) ?_
          refine goAs rfl rfl ?_;refine Zaf (Zag (Zae (goMv rfl rfl (Zaw.go (ZaN 3 sl25 rfl rfl rfl rfl rfl rfl rfl rfl) (goAs rfl rfl (Zaf (Zag (Zae ?_))))))));refine goMv rfl rfl (goMv rfl rfl (Zab.go (Zbl rfl rfl (IntWalk.i64_in _ (by omega)) rfl) (o_as 75 (.d (natD (d i - 1))) rfl (eqv (congrArg intD (by omega))) (goAs rfl rfl (goAs rfl rfl (Zaf (Zay (Za0 (α := List Nat) (fun out => ⟨132, [(0, .d (grD g)), (6, (.d (grD (comC g)))), (7, (.d (natsD (noL g)))), (8, (.d (grD (revG g)))), (9, (.d (natD (d i)))), (10, (.own 3 0 out.length)), (11, (.d (natD i))), (12, (.d (natsD ((List.range (revG g).length).map d)))), (13, (.d (natD (nth out (out.length - 1))))), (14, (.d (natD (d i - out.length)))), (34, (.d (natD g.length))), (35, (.d (natD i)))], [(3, [.rowD 3 1 (out.map natD)])]⟩) (fun out => PS g i d (d i) out ∧ out.length ≤ d i) (fun out => d i - out.length) ([i]) (⟨ps_start hil, by show 1 ≤ d i; omega⟩) (Zax hF [3] rfl rfl ⟨rfl, rfl, rfl, rfl, rfl, rfl, rfl, rfl, rfl, rfl, rfl, rfl, trivial⟩) ?_))))))));rintro out ⟨hP, hol⟩;have hlast : nth out (out.length - 1) < g.length := hP.lt _ (Zbs (by have := hP.len; omega));refine Zag (Zag (Zae (goMv rfl rfl ?_)))
          first | refine Zab.go (st_gtr rfl rfl rfl) ?_ | refine Zab.go (ZbF rfl rfl rfl) ?_
          refine Zaf ?_
          first | refine ZaU rfl (fun h77 => ?_) (fun h77 => ?_) | refine ZaF rfl (fun h77 => ?_) (fun h77 => ?_)
          · refine ZaC (Zag (Zay (Zag ?_)));have hlt : out.length < d i := by omega
            have hsl2 := hg.gb.len hlast;have hP1 := hP.len;have hdl := hP.dl (out.length - 1) (by omega);refine Zae (goAs rfl rfl (Zaf (Zag (Zag (Zae (goMv rfl rfl (goMv rfl rfl ?_)))))))
            first | refine Zab.go (Zam (nth out (out.length - 1)) rfl rfl (rfl) (getg hlast) Try.underlying32 rfl sz25 rfl) ?_ | refine Zab.go (Zal (nth out (out.length - 1)) rfl rfl (rfl) (getg hlast) rfl Try.underlying32 sz25 rfl) ?_
            first | refine Zab.go (Zai rfl rfl on25 rfl) ?_ | refine Zab.go (Zak rfl rfl rfl on25 rfl) ?_ | refine Zab.go (Zaj rfl rfl (rfl) rfl on25 rfl) ?_
            refine Zab.go (ZaD rfl (List.length_map ..) Try.underlying25 rfl) (goMv rfl rfl (Zaf (Zay (Za0 (α := Nat × Option Nat) (fun q => ⟨132, [(0, .d (grD g)), (6, (.d (grD (comC g)))), (7, (.d (natsD (noL g)))), (8, (.d (grD (revG g)))), (9, (.d (natD (d i)))), (10, (.own 3 0 out.length)), (11, (.d (natD i))), (12, (.d (natsD ((List.range (revG g).length).map d)))), (14, (.d (natD (d i - out.length)))), (15, (.d (intD (encO q.2)))), (34, (.d (natD g.length))), (35, (.d (natD i))), (83, (.d (natsD (sucs g (nth out (out.length - 1)))))), (84, (.d (natD (sucs g (nth out (out.length - 1))).length))), (85, (.d (natD q.1)))], [(3, [.rowD 3 1 (out.map natD)])]⟩) (fun q => q.1 ≤ (sucs g (nth out (out.length - 1))).length ∧ SS (noL g) g i d (d i - out.length) ((sucs g (nth out (out.length - 1))).take q.1) q.2) (fun q => (sucs g (nth out (out.length - 1))).length - q.1) ((0, none)) (⟨Nat.zero_le _, ss_start⟩) (Zax hF [3] rfl rfl ⟨rfl, rfl, rfl, rfl, rfl, rfl, rfl, rfl, rfl, rfl, rfl, rfl, rfl, rfl, rfl, trivial⟩) ?_))));rintro ⟨k, o⟩ ⟨hk, hS⟩;dsimp only at hk hS ⊢;refine Zag (Zae ?_)
            first | refine Zab.go (ZaY rfl rfl rfl) ?_ | refine Zab.go (ZaT rfl rfl rfl) ?_
            refine Zaf (Zag ?_)
            first | refine ZaU rfl (fun h86 => ?_) (fun h86 => ?_) | refine ZaF rfl (fun h86 => ?_) (fun h86 => ?_)
            · refine ZaC (Zag (Zay (Zag ?_)));have hkl : k < (sucs g (nth out (out.length - 1))).length := Za7 h86;have hgn := getn hkl;have hul : nth (sucs g (nth out (out.length - 1))) k < g.length := hg.gb.suc hlast (Zbs hkl);have htk : (sucs g (nth out (out.length - 1))).take k ++ [nth (sucs g (nth out (out.length - 1))) k] = (sucs g (nth out (out.length - 1))).take (k + 1) := by rw [List.take_succ_eq_append_getElem hkl, Za6 hkl]
              obtain ⟨u, hue⟩ : ∃ u, nth (sucs g (nth out (out.length - 1))) k = u := ⟨_, rfl⟩
              rw [hue] at hgn hul htk;have hgu := getn (l := noL g) (k := u) (by rw [hnl]; exact hul);rw [ZbJ hul] at hgu;have hno : noC g u = noC g i → nth (noL g) u = nth (noL g) i := fun e => by rw [ZbJ hul, ZbJ hil]; exact e
              have hon : nth (noL g) u = nth (noL g) i → noC g u = noC g i := fun e => by rw [ZbJ hul, ZbJ hil] at e; exact e
              refine Zae ?_
              first | refine Zab.go (Zam (k) rfl rfl (rfl) (hgn) Try.underlying25 rfl sz3 rfl) ?_ | refine Zab.go (Zal (k) rfl rfl (rfl) (hgn) rfl Try.underlying25 sz3 rfl) ?_
              first | refine Zab.go (Zai rfl rfl on3 rfl) ?_ | refine Zab.go (Zak rfl rfl rfl on3 rfl) ?_ | refine Zab.go (Zaj rfl rfl (rfl) rfl on3 rfl) ?_
              refine goAs rfl rfl (Zaf (Zag (Za4 [[], [], [0, 1], [0, 1, 2], [0, 1, 2, 3], [0, 1, 2, 3], [0, 1, 2, 3, 4, 5], [0, 1, 2, 3, 4, 5, 6], [0, 1, 2, 3], [0, 1, 2, 3], [0, 1, 2, 3, 8, 9], [0, 1, 2, 3, 8, 9, 10], [0, 1, 2, 3, 4, 5, 6, 7, 8, 9, 10, 11], [0, 1, 2, 3, 4, 5, 6, 7, 8, 9, 10, 11, 12], [0, 1, 2, 3, 4, 5, 6, 7, 8, 9, 10, 11, 12, 13], [0, 1, 2, 3, 4, 5, 6, 7, 8, 9, 10, 11, 12, 13, 14], [0, 1, 2, 3, 4, 5, 6, 7, 8, 9, 10, 11, 12, 13, 14], [0, 1, 2, 3, 4, 5, 6, 7, 8, 9, 10, 11, 12, 13, 14, 15, 16], [0, 1, 2, 3, 4, 5, 6, 7, 8, 9, 10, 11, 12, 13, 14, 15, 16, 17], [0, 1, 2, 3, 4, 5, 6, 7, 8, 9, 10, 11, 12, 13, 14], [0, 1, 2, 3, 4, 5, 6, 7, 8, 9, 10, 11, 12, 13, 14, 15, 16, 17, 18, 19], [0, 1, 2, 3, 4, 5, 6, 7, 8, 9, 10, 11, 12, 13, 14, 15, 16, 17, 18, 19, 20], [0, 1, 2, 3, 4, 5, 6, 7, 8, 9, 10, 11, 12, 13, 14, 15, 16, 17, 18, 19, 20, 21], [0, 1, 2, 3, 4, 5, 6, 7, 8, 9, 10, 11, 12, 13, 14, 15, 16, 17, 18, 19, 20, 21, 22], [0, 1, 2, 3, 4, 5, 6, 7, 8, 9, 10, 11, 12, 13, 14, 15, 16, 17, 18, 19, 20, 21, 22, 23], [0, 1, 2, 3, 4, 5, 6, 7, 8, 9, 10, 11, 12, 13, 14, 15, 16, 17, 18, 19, 20, 21, 22, 23, 24], [0, 1, 2, 3, 4, 5, 6, 7, 8, 9, 10, 11, 12, 13, 14, 15, 16, 17, 18, 19, 20, 21, 22, 23, 24, 25], [0, 1, 2, 3, 4, 5, 6, 7, 8, 9, 10, 11, 12, 13, 14, 15, 16, 17, 18, 19, 20, 21, 22, 23, 24, 25], [0, 1, 2, 3, 4, 5, 6, 7, 8, 9, 10, 11, 12, 13, 14, 15, 16, 17, 18, 19, 20, 21, 22, 23, 24, 25, 26, 27], [0, 1, 2, 3, 4, 5, 6, 7, 8, 9, 10, 11, 12, 13, 14, 15, 16, 17, 18, 19, 20, 21, 22, 23, 24, 25, 26, 27, 28], [0, 1, 2, 3, 4, 5, 6, 7, 8, 9, 10, 11, 12, 13, 14, 15, 16, 17, 18, 19, 20, 21, 22, 23, 24, 25, 26, 27, 28, 29]] mixed rfl (dws ?_))))
              first | refine Zad [17] [] rfl rfl (fun _ => Zaa (Zah rfl rfl)) ?_ | refine Zac [17] rfl rfl (fun _ => Zaa (Zah rfl rfl)) ?_
              first | refine Zad [11] [] rfl rfl (fun _ => Zaa (Zah rfl rfl)) ?_ | refine Zac [11] rfl rfl (fun _ => Zaa (Zah rfl rfl)) ?_
              refine dwc 2 rfl rfl rfl (dw1 3 rfl rfl ?_)
              first | refine Zab.go (st_gtr rfl rfl rfl) ?_ | refine Zab.go (ZbF rfl rfl rfl) ?_
              refine Zaf ⟨rfl, ?_⟩;refine dw1 4 rfl rfl (goMv rfl rfl ?_)
              first | refine Zbw 92 rfl (fun h92 => ?_) (fun h92 => ?_) | refine Zbj 92 rfl (fun h92 => ?_) (fun h92 => ?_)
              · refine Zaf ⟨rfl, ?_⟩;refine dws ?_
                first | refine Zad [7, 92] [] rfl rfl (fun _ => Zan rfl rfl rfl (Zah rfl rfl)) ?_ | refine Zac [7, 92] rfl rfl (fun _ => Zan rfl rfl rfl (Zah rfl rfl)) ?_
                first | refine Zad [17, 92] [] rfl rfl (fun _ => Zan rfl rfl rfl (Zah rfl rfl)) ?_ | refine Zac [17, 92] rfl rfl (fun _ => Zan rfl rfl rfl (Zah rfl rfl)) ?_
                first | refine Zad [93, 94, 92] [] rfl rfl (fun _ => Zan rfl rfl rfl (Zam (u) rfl rfl (rfl) (hgu) Try.underlying25 rfl sz3 rfl)) ?_ | refine Zac [93, 94, 92] rfl rfl (fun _ => Zan rfl rfl rfl (Zam (u) rfl rfl (rfl) (hgu) Try.underlying25 rfl sz3 rfl)) ?_ | refine Zad [93, 94, 92] [] rfl rfl (fun _ => Zan rfl rfl rfl (Zal (u) rfl rfl (rfl) (hgu) rfl Try.underlying25 sz3 rfl)) ?_ | refine Zac [93, 94, 92] rfl rfl (fun _ => Zan rfl rfl rfl (Zal (u) rfl rfl (rfl) (hgu) rfl Try.underlying25 sz3 rfl)) ?_
                first | refine Zad [95, 92] [] rfl rfl (fun _ => Zan rfl rfl rfl (Zai rfl rfl on3 rfl)) ?_ | refine Zac [95, 92] rfl rfl (fun _ => Zan rfl rfl rfl (Zai rfl rfl on3 rfl)) ?_ | refine Zad [95, 92] [] rfl rfl (fun _ => Zan rfl rfl rfl (Zak rfl rfl rfl on3 rfl)) ?_ | refine Zac [95, 92] rfl rfl (fun _ => Zan rfl rfl rfl (Zak rfl rfl rfl on3 rfl)) ?_ | refine Zad [95, 92] [] rfl rfl (fun _ => Zan rfl rfl rfl (Zaj rfl rfl (rfl) rfl on3 rfl)) ?_ | refine Zac [95, 92] rfl rfl (fun _ => Zan rfl rfl rfl (Zaj rfl rfl (rfl) rfl on3 rfl)) ?_
                first | refine Zad [7, 92] [] rfl rfl (fun _ => Zan rfl rfl rfl (Zah rfl rfl)) ?_ | refine Zac [7, 92] rfl rfl (fun _ => Zan rfl rfl rfl (Zah rfl rfl)) ?_
                first | refine Zad [11, 92] [] rfl rfl (fun _ => Zan rfl rfl rfl (Zah rfl rfl)) ?_ | refine Zac [11, 92] rfl rfl (fun _ => Zan rfl rfl rfl (Zah rfl rfl)) ?_
                first | refine Zad [97, 98, 92] [] rfl rfl (fun _ => Zan rfl rfl rfl (Zam (i) rfl rfl (rfl) (hgi) Try.underlying25 rfl sz3 rfl)) ?_ | refine Zac [97, 98, 92] rfl rfl (fun _ => Zan rfl rfl rfl (Zam (i) rfl rfl (rfl) (hgi) Try.underlying25 rfl sz3 rfl)) ?_ | refine Zad [97, 98, 92] [] rfl rfl (fun _ => Zan rfl rfl rfl (Zal (i) rfl rfl (rfl) (hgi) rfl Try.underlying25 sz3 rfl)) ?_ | refine Zac [97, 98, 92] rfl rfl (fun _ => Zan rfl rfl rfl (Zal (i) rfl rfl (rfl) (hgi) rfl Try.underlying25 sz3 rfl)) ?_
                first | refine Zad [99, 92] [] rfl rfl (fun _ => Zan rfl rfl rfl (Zai rfl rfl on3 rfl)) ?_ | refine Zac [99, 92] rfl rfl (fun _ => Zan rfl rfl rfl (Zai rfl rfl on3 rfl)) ?_ | refine Zad [99, 92] [] rfl rfl (fun _ => Zan rfl rfl rfl (Zak rfl rfl rfl on3 rfl)) ?_ | refine Zac [99, 92] rfl rfl (fun _ => Zan rfl rfl rfl (Zak rfl rfl rfl on3 rfl)) ?_ | refine Zad [99, 92] [] rfl rfl (fun _ => Zan rfl rfl rfl (Zaj rfl rfl (rfl) rfl on3 rfl)) ?_ | refine Zac [99, 92] rfl rfl (fun _ => Zan rfl rfl rfl (Zaj rfl rfl (rfl) rfl on3 rfl)) ?_
                refine dwc 12 rfl rfl rfl (dw1 13 rfl rfl (ZaH rfl rfl rfl ?_))
                first | refine Zab.go (Zby rfl rfl rfl) ?_ | refine Zab.go (Zbb rfl rfl rfl) ?_ | refine Zab.go (Zbk rfl rfl rfl) ?_ | refine Zab.go (Zbr Try.underlying3 rfl rfl rfl) ?_ | refine Zab.go (Zbo Try.underlying3 rfl rfl rfl) ?_ | refine Zab.go (Zbp Try.underlying3 rfl rfl) ?_ | refine Zab.go (Zbq Try.underlying3 rfl rfl rfl) ?_ | refine Zab.go (Zbc Try.underlying3 rfl rfl) ?_
                refine Zaf ⟨rfl, ?_⟩;refine dw1 14 rfl rfl (Zab.go (Za8 rfl rfl rfl rfl) (Zaf ⟨rfl, ?_⟩));refine dw1 15 rfl rfl (goMv rfl rfl ?_)
                first | refine Zbw 103 rfl (fun h103 => ?_) (fun h103 => ?_) | refine Zbj 103 rfl (fun h103 => ?_) (fun h103 => ?_)
                · refine Zaf ⟨rfl, ?_⟩;refine dws ?_
                  first | refine Zad [12, 103] [] rfl rfl (fun _ => Zan rfl rfl rfl (Zah rfl rfl)) ?_ | refine Zac [12, 103] rfl rfl (fun _ => Zan rfl rfl rfl (Zah rfl rfl)) ?_
                  first | refine Zad [17, 103] [] rfl rfl (fun _ => Zan rfl rfl rfl (Zah rfl rfl)) ?_ | refine Zac [17, 103] rfl rfl (fun _ => Zan rfl rfl rfl (Zah rfl rfl)) ?_
                  first | refine Zad [104, 105, 103] [] rfl rfl (fun _ => Zan rfl rfl rfl (Zam (u) rfl rfl (rfl) (getDl (by rw [hrl]; exact hul)) Try.underlying25 rfl sz3 rfl)) ?_ | refine Zac [104, 105, 103] rfl rfl (fun _ => Zan rfl rfl rfl (Zam (u) rfl rfl (rfl) (getDl (by rw [hrl]; exact hul)) Try.underlying25 rfl sz3 rfl)) ?_ | refine Zad [104, 105, 103] [] rfl rfl (fun _ => Zan rfl rfl rfl (Zal (u) rfl rfl (rfl) (getDl (by rw [hrl]; exact hul)) rfl Try.underlying25 sz3 rfl)) ?_ | refine Zac [104, 105, 103] rfl rfl (fun _ => Zan rfl rfl rfl (Zal (u) rfl rfl (rfl) (getDl (by rw [hrl]; exact hul)) rfl Try.underlying25 sz3 rfl)) ?_
                  first | refine Zad [106, 103] [] rfl rfl (fun _ => Zan rfl rfl rfl (Zai rfl rfl on3 rfl)) ?_ | refine Zac [106, 103] rfl rfl (fun _ => Zan rfl rfl rfl (Zai rfl rfl on3 rfl)) ?_ | refine Zad [106, 103] [] rfl rfl (fun _ => Zan rfl rfl rfl (Zak rfl rfl rfl on3 rfl)) ?_ | refine Zac [106, 103] rfl rfl (fun _ => Zan rfl rfl rfl (Zak rfl rfl rfl on3 rfl)) ?_ | refine Zad [106, 103] [] rfl rfl (fun _ => Zan rfl rfl rfl (Zaj rfl rfl (rfl) rfl on3 rfl)) ?_ | refine Zac [106, 103] rfl rfl (fun _ => Zan rfl rfl rfl (Zaj rfl rfl (rfl) rfl on3 rfl)) ?_
                  first | refine Zad [14, 103] [] rfl rfl (fun _ => Zan rfl rfl rfl (Zah rfl rfl)) ?_ | refine Zac [14, 103] rfl rfl (fun _ => Zan rfl rfl rfl (Zah rfl rfl)) ?_
                  refine dwc 20 rfl rfl rfl (dw1 21 rfl rfl (ZaH rfl rfl rfl ?_))
                  first | refine Zab.go (Zby rfl rfl rfl) ?_ | refine Zab.go (Zbb rfl rfl rfl) ?_ | refine Zab.go (Zbk rfl rfl rfl) ?_ | refine Zab.go (Zbr Try.underlying3 rfl rfl rfl) ?_ | refine Zab.go (Zbo Try.underlying3 rfl rfl rfl) ?_ | refine Zab.go (Zbp Try.underlying3 rfl rfl) ?_ | refine Zab.go (Zbq Try.underlying3 rfl rfl rfl) ?_ | refine Zab.go (Zbc Try.underlying3 rfl rfl) ?_
                  refine Zaf ⟨rfl, ?_⟩;refine dw1 22 rfl rfl (Zab.go (Za8 rfl rfl rfl rfl) (Zaf ⟨rfl, ?_⟩));refine dw1 23 rfl rfl (goMv rfl rfl ?_)
                  first | refine Zbw 111 rfl (fun h111 => ?_) (fun h111 => ?_) | refine Zbj 111 rfl (fun h111 => ?_) (fun h111 => ?_)
                  · refine Zaf ⟨rfl, ?_⟩;refine dw1 24 rfl rfl (ZaH rfl rfl rfl (goMv rfl rfl (Zaf ⟨rfl, ?_⟩)));refine dw1 25 rfl rfl (ZaH rfl rfl rfl ?_)
                    first | refine Zab.go (ZaY rfl rfl rfl) ?_ | refine Zab.go (ZaT rfl rfl rfl) ?_
                    refine Zaf ⟨rfl, ?_⟩;refine dw1 26 rfl rfl (ZaH rfl rfl rfl (goMv rfl rfl ?_))
                    first | refine Zbw 114 rfl (fun h114 => ?_) (fun h114 => ?_) | refine Zbj 114 rfl (fun h114 => ?_) (fun h114 => ?_)
                    · refine Zaf ⟨rfl, ?_⟩;refine dws (Zad [17, 114] [] rfl rfl (fun _ => ZaI rfl rfl rfl rfl) (Zad [15, 114] [] rfl rfl (fun _ => ZaI rfl rfl rfl rfl) (dwc 28 rfl rfl rfl (dw1 29 rfl rfl (ZaG rfl rfl rfl rfl (Zaf ⟨rfl, ?_⟩))))));refine dw1 30 rfl rfl (ZaH rfl rfl rfl (Zab.go (Za8 rfl rfl rfl rfl) (Zaf ⟨rfl, ?_⟩)));refine dw1 31 rfl rfl (Zab.go (Za8 rfl rfl rfl rfl) (Zaf ⟨rfl, ?_⟩));refine dwe ?_;refine a_true rfl rfl (Zae (goMv rfl rfl (goAs rfl rfl (Zaf (Zae (Zab.go (ZaJ rfl rfl (IntWalk.i64_in _ (by omega)) rfl) (goMv rfl rfl (Zaf ?_))))))));exact ⟨(k + 1, some u), ⟨hkl, htk ▸ ss_take hS ⟨Int.ofNat_lt.1 h92, hno (Int.ofNat.inj h103), Int.ofNat.inj h111⟩ (enc_neg h114)⟩, by show (sucs g (nth out (out.length - 1))).length - (k + 1) < (sucs g (nth out (out.length - 1))).length - k; omega, Zax hF [3] rfl (rfl) ⟨rfl, rfl, rfl, rfl, rfl, rfl, rfl, rfl, rfl, rfl, rfl, rfl, rfl, rfl, rfl, trivial⟩⟩
                    · refine Zaf ⟨rfl, ?_⟩;refine dws ?_
                      first | refine Zad [17, 114] [] rfl rfl (fun _ => Zan rfl rfl rfl (Zah rfl rfl)) ?_ | refine Zac [17, 114] rfl rfl (fun _ => Zan rfl rfl rfl (Zah rfl rfl)) ?_
                      first | refine Zad [15, 114] [] rfl rfl (fun _ => Zan rfl rfl rfl (Zah rfl rfl)) ?_ | refine Zac [15, 114] rfl rfl (fun _ => Zan rfl rfl rfl (Zah rfl rfl)) ?_
                      refine dwc 28 rfl rfl rfl (dw1 29 rfl rfl (ZaH rfl rfl rfl ?_))
                      first | refine Zab.go (ZaY rfl rfl rfl) ?_ | refine Zab.go (ZaT rfl rfl rfl) ?_
                      refine Zaf ⟨rfl, ?_⟩;refine dw1 30 rfl rfl (ZaH rfl rfl rfl (Zab.go (ZaW rfl rfl rfl rfl) (Zaf ⟨rfl, ?_⟩)));refine dw1 31 rfl rfl (Zab.go (Za8 rfl rfl rfl rfl) (Zaf ⟨rfl, ?_⟩));refine dwe ?_
                      first | refine ZaU rfl (fun h119 => ?_) (fun h119 => ?_) | refine ZaF rfl (fun h119 => ?_) (fun h119 => ?_)
                      · refine Zae (goMv rfl rfl (goAs rfl rfl (Zaf (Zae (Zab.go (ZaJ rfl rfl (IntWalk.i64_in _ (by omega)) rfl) (goMv rfl rfl (Zaf ?_)))))));exact ⟨(k + 1, some u), ⟨hkl, htk ▸ ss_take hS ⟨Int.ofNat_lt.1 h92, hno (Int.ofNat.inj h103), Int.ofNat.inj h111⟩ (enc_lt h119)⟩, by show (sucs g (nth out (out.length - 1))).length - (k + 1) < (sucs g (nth out (out.length - 1))).length - k; omega, Zax hF [3] rfl (rfl) ⟨rfl, rfl, rfl, rfl, rfl, rfl, rfl, rfl, rfl, rfl, rfl, rfl, rfl, rfl, rfl, trivial⟩⟩
                      · refine ZaC (Zae (Zab.go (ZaJ rfl rfl (IntWalk.i64_in _ (by omega)) rfl) (goMv rfl rfl (Zaf ?_))));exact ⟨(k + 1, o), ⟨hkl, htk ▸ ss_skip hS (fun h => enc_ge h114 h119 h.2)⟩, by show (sucs g (nth out (out.length - 1))).length - (k + 1) < (sucs g (nth out (out.length - 1))).length - k; omega, Zax hF [3] rfl (rfl) ⟨rfl, rfl, rfl, rfl, rfl, rfl, rfl, rfl, rfl, rfl, rfl, rfl, rfl, rfl, rfl, trivial⟩⟩
                  · refine Zaf ⟨rfl, ?_⟩;refine dw1 24 rfl rfl (ZaG rfl rfl rfl rfl (Zaf ⟨rfl, ?_⟩));refine dw1 25 rfl rfl (ZaG rfl rfl rfl rfl (Zaf ⟨rfl, ?_⟩));refine dw1 26 rfl rfl (ZaG rfl rfl rfl rfl (Zaf ⟨rfl, ?_⟩));refine dws (Zad [17, 114] [] rfl rfl (fun _ => ZbK rfl rfl rfl) (Zad [15, 114] [] rfl rfl (fun _ => ZbK rfl rfl rfl) (dwc 28 rfl rfl rfl (dw1 29 rfl rfl (o_passU rfl rfl rfl (Zaf ⟨rfl, ?_⟩))))));refine dw1 30 rfl rfl (ZaG rfl rfl rfl rfl (Zaf ⟨rfl, ?_⟩));refine dw1 31 rfl rfl (Zab.go (ZaW rfl rfl rfl rfl) (Zaf ⟨rfl, ?_⟩));refine dwe (Zbu rfl rfl (ZaC (Zae (Zab.go (ZaJ rfl rfl (IntWalk.i64_in _ (by omega)) rfl) (goMv rfl rfl (Zaf ?_))))));exact ⟨(k + 1, o), ⟨hkl, htk ▸ ss_skip hS (fun h => h111 (congrArg Int.ofNat h.1.2.2))⟩, by show (sucs g (nth out (out.length - 1))).length - (k + 1) < (sucs g (nth out (out.length - 1))).length - k; omega, Zax hF [3] rfl (rfl) ⟨rfl, rfl, rfl, rfl, rfl, rfl, rfl, rfl, rfl, rfl, rfl, rfl, rfl, rfl, rfl, trivial⟩⟩
                · refine Zaf ⟨rfl, ?_⟩;refine dws ?_;refine Zad [12, 103] [] rfl rfl (fun _ => ZaI rfl rfl rfl rfl) (Zad [17, 103] [] rfl rfl (fun _ => ZaI rfl rfl rfl rfl) (Zad [104, 105, 103] [] rfl rfl (fun _ => ZaI rfl rfl rfl rfl) (Zad [106, 103] [] rfl rfl (fun _ => ZaI rfl rfl rfl rfl) (Zad [14, 103] [] rfl rfl (fun _ => ZaI rfl rfl rfl rfl) (dwc 20 rfl rfl rfl (dw1 21 rfl rfl (ZaG rfl rfl rfl rfl (Zaf ⟨rfl, ?_⟩))))))));refine dw1 22 rfl rfl (Zab.go (ZaW rfl rfl rfl rfl) (Zaf ⟨rfl, ?_⟩));refine dw1 23 rfl rfl (goMv rfl rfl (Zaf ⟨rfl, ?_⟩));refine dw1 24 rfl rfl (ZaG rfl rfl rfl rfl (Zaf ⟨rfl, ?_⟩));refine dw1 25 rfl rfl (ZaG rfl rfl rfl rfl (Zaf ⟨rfl, ?_⟩));refine dw1 26 rfl rfl (ZaG rfl rfl rfl rfl (Zaf ⟨rfl, ?_⟩));refine dws (Zad [17, 114] [] rfl rfl (fun _ => ZbK rfl rfl rfl) (Zad [15, 114] [] rfl rfl (fun _ => ZbK rfl rfl rfl) (dwc 28 rfl rfl rfl (dw1 29 rfl rfl (o_passU rfl rfl rfl (Zaf ⟨rfl, ?_⟩))))));refine dw1 30 rfl rfl (ZaG rfl rfl rfl rfl (Zaf ⟨rfl, ?_⟩));refine dw1 31 rfl rfl (Zab.go (ZaW rfl rfl rfl rfl) (Zaf ⟨rfl, ?_⟩));refine dwe (Zbu rfl rfl (ZaC (Zae (Zab.go (ZaJ rfl rfl (IntWalk.i64_in _ (by omega)) rfl) (goMv rfl rfl (Zaf ?_))))));exact ⟨(k + 1, o), ⟨hkl, htk ▸ ss_skip hS (fun h => h103 (congrArg Int.ofNat (hon h.1.2.1)))⟩, by show (sucs g (nth out (out.length - 1))).length - (k + 1) < (sucs g (nth out (out.length - 1))).length - k; omega, Zax hF [3] rfl (rfl) ⟨rfl, rfl, rfl, rfl, rfl, rfl, rfl, rfl, rfl, rfl, rfl, rfl, rfl, rfl, rfl, trivial⟩⟩
              · refine Zaf ⟨rfl, ?_⟩;refine dws (Zad [7, 92] [] rfl rfl (fun _ => ZaI rfl rfl rfl rfl) (Zad [17, 92] [] rfl rfl (fun _ => ZaI rfl rfl rfl rfl) (Zad [93, 94, 92] [] rfl rfl (fun _ => ZaI rfl rfl rfl rfl) ?_)));refine Zad [95, 92] [] rfl rfl (fun _ => ZaI rfl rfl rfl rfl) (Zad [7, 92] [] rfl rfl (fun _ => ZaI rfl rfl rfl rfl) (Zad [11, 92] [] rfl rfl (fun _ => ZaI rfl rfl rfl rfl) (Zad [97, 98, 92] [] rfl rfl (fun _ => ZaI rfl rfl rfl rfl) (Zad [99, 92] [] rfl rfl (fun _ => ZaI rfl rfl rfl rfl) (dwc 12 rfl rfl rfl (dw1 13 rfl rfl (ZaG rfl rfl rfl rfl (Zaf ⟨rfl, ?_⟩))))))));refine dw1 14 rfl rfl (Zab.go (ZaW rfl rfl rfl rfl) (Zaf ⟨rfl, ?_⟩));refine dw1 15 rfl rfl (goMv rfl rfl (Zaf ⟨rfl, ?_⟩));refine dws ?_;refine Zad [12, 103] [] rfl rfl (fun _ => ZaI rfl rfl rfl rfl) (Zad [17, 103] [] rfl rfl (fun _ => ZaI rfl rfl rfl rfl) (Zad [104, 105, 103] [] rfl rfl (fun _ => ZaI rfl rfl rfl rfl) (Zad [106, 103] [] rfl rfl (fun _ => ZaI rfl rfl rfl rfl) (Zad [14, 103] [] rfl rfl (fun _ => ZaI rfl rfl rfl rfl) (dwc 20 rfl rfl rfl (dw1 21 rfl rfl (ZaG rfl rfl rfl rfl (Zaf ⟨rfl, ?_⟩))))))));refine dw1 22 rfl rfl (Zab.go (ZaW rfl rfl rfl rfl) (Zaf ⟨rfl, ?_⟩));refine dw1 23 rfl rfl (goMv rfl rfl (Zaf ⟨rfl, ?_⟩));refine dw1 24 rfl rfl (ZaG rfl rfl rfl rfl (Zaf ⟨rfl, ?_⟩));refine dw1 25 rfl rfl (ZaG rfl rfl rfl rfl (Zaf ⟨rfl, ?_⟩));refine dw1 26 rfl rfl (ZaG rfl rfl rfl rfl (Zaf ⟨rfl, ?_⟩));refine dws (Zad [17, 114] [] rfl rfl (fun _ => ZbK rfl rfl rfl) (Zad [15, 114] [] rfl rfl (fun _ => ZbK rfl rfl rfl) (dwc 28 rfl rfl rfl (dw1 29 rfl rfl (o_passU rfl rfl rfl (Zaf ⟨rfl, ?_⟩))))));refine dw1 30 rfl rfl (ZaG rfl rfl rfl rfl (Zaf ⟨rfl, ?_⟩));refine dw1 31 rfl rfl (Zab.go (ZaW rfl rfl rfl rfl) (Zaf ⟨rfl, ?_⟩));refine dwe (Zbu rfl rfl (ZaC (Zae (Zab.go (ZaJ rfl rfl (IntWalk.i64_in _ (by omega)) rfl) (goMv rfl rfl (Zaf ?_))))));exact ⟨(k + 1, o), ⟨hkl, htk ▸ ss_skip hS (fun h => h92 (Int.ofNat_lt.2 h.1.1))⟩, by show (sucs g (nth out (out.length - 1))).length - (k + 1) < (sucs g (nth out (out.length - 1))).length - k; omega, Zax hF [3] rfl (rfl) ⟨rfl, rfl, rfl, rfl, rfl, rfl, rfl, rfl, rfl, rfl, rfl, rfl, rfl, rfl, rfl, trivial⟩⟩
            · refine ZaL (Zag ?_);have hke : k = (sucs g (nth out (out.length - 1))).length := by have := h86; omega
              subst hke;rw [List.take_length] at hS;obtain ⟨u, hu⟩ := ss_some (lim := 0) hS (cand_ex hD hil hlast (by omega) (by omega) (by omega));subst hu;refine Zae (goMv rfl rfl (goMv rfl rfl (Zaw.go (ZaN 22 sl25 rfl rfl rfl rfl rfl rfl rfl rfl) (Zaw.go (st_appM (emb := natD) out [u] rfl rfl rfl rfl rfl rfl rfl rfl sl25 (by show (out.length + 1) * 8 ≤ _; omega) rfl rfl rfl rfl) (goAs rfl rfl (Zaf (Zae (goMv rfl rfl ?_))))))));refine o_as 126 (.d (natD (nth (out ++ [u]) ((out ++ [u]).length - 1)))) rfl (by rw [show nth (out ++ [u]) ((out ++ [u]).length - 1) = u by simp [nth]]; rfl) (goAs rfl rfl (Zaf (Zae (goMv rfl rfl (Zab.go (Zbl rfl rfl (IntWalk.i64_in _ (by omega)) rfl) (o_as 79 (.d (natD (d i - (out ++ [u]).length))) rfl (eqv (congrArg intD (by rw [List.length_append, List.length_singleton]; omega))) (goAs rfl rfl (Zaf ?_))))))));exact ⟨out ++ [u], ⟨(ps_next hg.gb hP hS).1, by rw [List.length_append, List.length_singleton]; omega⟩, by rw [List.length_append, List.length_singleton]; omega, Zax hF [3] rfl (rfl) ⟨rfl, rfl, rfl, rfl, rfl, rfl, rfl, rfl, rfl, rfl, rfl, rfl, trivial⟩⟩
          · refine ZaL ?_
            first | (have hol2 : out.length = d i := (by have := h77; omega); refine Zbm (emb := natD) 10 3 out rfl rfl rfl rfl rfl rfl rfl ?_) | skip
            refine Zae (Zab.go (ZaJ rfl rfl (IntWalk.i64_in _ (by omega)) rfl) (goMv rfl rfl (Zaf ?_)));exact ⟨(i + 1, d i, out), ⟨hil, ci_new hC hil hD hd0 hP (by omega)⟩, by show g.length - (i + 1) < g.length - i; omega, ⟨rfl, rfl, fun _ _ => Has.get (l := [(0, _), (6, _), (7, _), (8, _), (9, _), (10, _), (34, _), (35, _)]) ⟨rfl, rfl, rfl, rfl, rfl, rfl, rfl, rfl, trivial⟩⟩⟩
    · refine ZaG rfl rfl rfl rfl ?_;refine ZaG rfl rfl rfl rfl (ZaG rfl rfl rfl rfl (ZaG rfl rfl rfl rfl (ZaG rfl rfl rfl rfl (ZaG rfl rfl rfl rfl (ZaG rfl rfl rfl rfl (Zab.go (ZaW rfl rfl rfl rfl) (Zaf (Zbu rfl rfl ?_))))))));refine ZaC (Zag (Zae (goMv rfl rfl (goMv rfl rfl (goMv rfl rfl (goMv rfl rfl (Zab.go (Zbl rfl rfl (IntWalk.i64_in _ (by omega)) rfl) (o_as 60 (.d (natD (best - 1))) rfl (eqv (congrArg intD (by omega))) ?_))))))));refine o_step (st_callX (distances_c (revG g) hrg (noL g) (by rw [hnl, hrl]) i (by rw [hrl]; exact hil) (best - 1) (by omega)) rfl [] trivial rfl rfl rfl rfl (fun r H' ⟨d, h1, h2, h3⟩ => by subst h2 h3; exact ⟨rfl, rfl, rfl⟩) rfl) rfl ?_; rintro _ ⟨r, H', ⟨d, hD, rfl, rfl⟩, rfl⟩;refine goAs rfl rfl (Zaf (Zag (Zag (Zae (goMv rfl rfl (goMv rfl rfl ?_))))))
      first | refine Zab.go (Zam (i) rfl rfl (rfl) (getDl (by rw [hrl]; exact hil)) Try.underlying25 rfl sz3 rfl) ?_ | refine Zab.go (Zal (i) rfl rfl (rfl) (getDl (by rw [hrl]; exact hil)) rfl Try.underlying25 sz3 rfl) ?_
      first | refine Zab.go (Zai rfl rfl on3 rfl) ?_ | refine Zab.go (Zak rfl rfl rfl on3 rfl) ?_ | refine Zab.go (Zaj rfl rfl (rfl) rfl on3 rfl) ?_
      first | refine Zab.go (Zby rfl rfl rfl) ?_ | refine Zab.go (Zbb rfl rfl rfl) ?_ | refine Zab.go (Zbk rfl rfl rfl) ?_ | refine Zab.go (Zbr Try.underlying3 rfl rfl rfl) ?_ | refine Zab.go (Zbo Try.underlying3 rfl rfl rfl) ?_ | refine Zab.go (Zbp Try.underlying3 rfl rfl) ?_ | refine Zab.go (Zbq Try.underlying3 rfl rfl rfl) ?_ | refine Zab.go (Zbc Try.underlying3 rfl rfl) ?_
      refine Zaf ?_
      first | refine ZaU rfl (fun h66 => ?_) (fun h66 => ?_) | refine ZaF rfl (fun h66 => ?_) (fun h66 => ?_)
      · refine ZaL ?_
        first | (have hol2 : out.length = d i := (by have := h77; omega); refine Zbm (emb := natD) 10 3 out rfl rfl rfl rfl rfl rfl rfl ?_) | skip
        refine Zae (Zab.go (ZaJ rfl rfl (IntWalk.i64_in _ (by omega)) rfl) (goMv rfl rfl (Zaf ?_)));exact ⟨(i + 1, best, out), ⟨hil, ci_skip hC (ds_no hD (Int.ofNat.inj h66))⟩, by show g.length - (i + 1) < g.length - i; omega, ⟨rfl, rfl, fun _ _ => Has.get (l := [(0, _), (6, _), (7, _), (8, _), (9, _), (10, _), (34, _), (35, _)]) ⟨rfl, rfl, rfl, rfl, rfl, rfl, rfl, rfl, trivial⟩⟩⟩
      · refine ZaC (Zag ?_);have hd0 : d i ≠ 0 := fun e => h66 (congrArg Int.ofNat e);have hdi := (hD.a i hd0).2;refine Zae (goMv rfl rfl (goMv rfl rfl ?_))
        first | refine Zab.go (Zam (i) rfl rfl (rfl) (getDl (by rw [hrl]; exact hil)) Try.underlying25 rfl sz3 rfl) ?_ | refine Zab.go (Zal (i) rfl rfl (rfl) (getDl (by rw [hrl]; exact hil)) rfl Try.underlying25 sz3 rfl) ?_
        first | refine Zab.go (Zai rfl rfl on3 rfl) ?_ | refine Zab.go (Zak rfl rfl rfl on3 rfl) ?_ | refine Zab.go (Zaj rfl rfl (rfl) rfl on3 rfl) ?_
        refine goAs rfl rfl ?_;refine Zaf (Zag (Zae (goMv rfl rfl (Zaw.go (ZaN 3 sl25 rfl rfl rfl rfl rfl rfl rfl rfl) (goAs rfl rfl (Zaf (Zag (Zae ?_))))))));refine goMv rfl rfl (goMv rfl rfl (Zab.go (Zbl rfl rfl (IntWalk.i64_in _ (by omega)) rfl) (o_as 75 (.d (natD (d i - 1))) rfl (eqv (congrArg intD (by omega))) (goAs rfl rfl (goAs rfl rfl (Zaf (Zay (Za0 (α := List Nat) (fun out => ⟨132, [(0, .d (grD g)), (6, (.d (grD (comC g)))), (7, (.d (natsD (noL g)))), (8, (.d (grD (revG g)))), (9, (.d (natD (d i)))), (10, (.own 3 0 out.length)), (11, (.d (natD i))), (12, (.d (natsD ((List.range (revG g).length).map d)))), (13, (.d (natD (nth out (out.length - 1))))), (14, (.d (natD (d i - out.length)))), (34, (.d (natD g.length))), (35, (.d (natD i)))], [(3, [.rowD 3 1 (out.map natD)])]⟩) (fun out => PS g i d (d i) out ∧ out.length ≤ d i) (fun out => d i - out.length) ([i]) (⟨ps_start hil, by show 1 ≤ d i; omega⟩) (Zax hF [3] rfl rfl ⟨rfl, rfl, rfl, rfl, rfl, rfl, rfl, rfl, rfl, rfl, rfl, rfl, trivial⟩) ?_))))))));rintro out ⟨hP, hol⟩;have hlast : nth out (out.length - 1) < g.length := hP.lt _ (Zbs (by have := hP.len; omega));refine Zag (Zag (Zae (goMv rfl rfl ?_)))
        first | refine Zab.go (st_gtr rfl rfl rfl) ?_ | refine Zab.go (ZbF rfl rfl rfl) ?_
        refine Zaf ?_
        first | refine ZaU rfl (fun h77 => ?_) (fun h77 => ?_) | refine ZaF rfl (fun h77 => ?_) (fun h77 => ?_)
        · refine ZaC (Zag (Zay (Zag ?_)));have hlt : out.length < d i := by omega
          have hsl2 := hg.gb.len hlast;have hP1 := hP.len;have hdl := hP.dl (out.length - 1) (by omega);refine Zae (goAs rfl rfl (Zaf (Zag (Zag (Zae (goMv rfl rfl (goMv rfl rfl ?_)))))))
          first | refine Zab.go (Zam (nth out (out.length - 1)) rfl rfl (rfl) (getg hlast) Try.underlying32 rfl sz25 rfl) ?_ | refine Zab.go (Zal (nth out (out.length - 1)) rfl rfl (rfl) (getg hlast) rfl Try.underlying32 sz25 rfl) ?_
          first | refine Zab.go (Zai rfl rfl on25 rfl) ?_ | refine Zab.go (Zak rfl rfl rfl on25 rfl) ?_ | refine Zab.go (Zaj rfl rfl (rfl) rfl on25 rfl) ?_
          refine Zab.go (ZaD rfl (List.length_map ..) Try.underlying25 rfl) (goMv rfl rfl (Zaf (Zay (Za0 (α := Nat × Option Nat) (fun q => ⟨132, [(0, .d (grD g)), (6, (.d (grD (comC g)))), (7, (.d (natsD (noL g)))), (8, (.d (grD (revG g)))), (9, (.d (natD (d i)))), (10, (.own 3 0 out.length)), (11, (.d (natD i))), (12, (.d (natsD ((List.range (revG g).length).map d)))), (14, (.d (natD (d i - out.length)))), (15, (.d (intD (encO q.2)))), (34, (.d (natD g.length))), (35, (.d (natD i))), (83, (.d (natsD (sucs g (nth out (out.length - 1)))))), (84, (.d (natD (sucs g (nth out (out.length - 1))).length))), (85, (.d (natD q.1)))], [(3, [.rowD 3 1 (out.map natD)])]⟩) (fun q => q.1 ≤ (sucs g (nth out (out.length - 1))).length ∧ SS (noL g) g i d (d i - out.length) ((sucs g (nth out (out.length - 1))).take q.1) q.2) (fun q => (sucs g (nth out (out.length - 1))).length - q.1) ((0, none)) (⟨Nat.zero_le _, ss_start⟩) (Zax hF [3] rfl rfl ⟨rfl, rfl, rfl, rfl, rfl, rfl, rfl, rfl, rfl, rfl, rfl, rfl, rfl, rfl, rfl, trivial⟩) ?_))));rintro ⟨k, o⟩ ⟨hk, hS⟩;dsimp only at hk hS ⊢;refine Zag (Zae ?_)
          first | refine Zab.go (ZaY rfl rfl rfl) ?_ | refine Zab.go (ZaT rfl rfl rfl) ?_
          refine Zaf (Zag ?_)
          first | refine ZaU rfl (fun h86 => ?_) (fun h86 => ?_) | refine ZaF rfl (fun h86 => ?_) (fun h86 => ?_)
          · refine ZaC (Zag (Zay (Zag ?_)));have hkl : k < (sucs g (nth out (out.length - 1))).length := Za7 h86;have hgn := getn hkl;have hul : nth (sucs g (nth out (out.length - 1))) k < g.length := hg.gb.suc hlast (Zbs hkl);have htk : (sucs g (nth out (out.length - 1))).take k ++ [nth (sucs g (nth out (out.length - 1))) k] = (sucs g (nth out (out.length - 1))).take (k + 1) := by rw [List.take_succ_eq_append_getElem hkl, Za6 hkl]
            obtain ⟨u, hue⟩ : ∃ u, nth (sucs g (nth out (out.length - 1))) k = u := ⟨_, rfl⟩
            rw [hue] at hgn hul htk;have hgu := getn (l := noL g) (k := u) (by rw [hnl]; exact hul);rw [ZbJ hul] at hgu;have hno : noC g u = noC g i → nth (noL g) u = nth (noL g) i := fun e => by rw [ZbJ hul, ZbJ hil]; exact e
            have hon : nth (noL g) u = nth (noL g) i → noC g u = noC g i := fun e => by rw [ZbJ hul, ZbJ hil] at e; exact e
            refine Zae ?_
            first | refine Zab.go (Zam (k) rfl rfl (rfl) (hgn) Try.underlying25 rfl sz3 rfl) ?_ | refine Zab.go (Zal (k) rfl rfl (rfl) (hgn) rfl Try.underlying25 sz3 rfl) ?_
            first | refine Zab.go (Zai rfl rfl on3 rfl) ?_ | refine Zab.go (Zak rfl rfl rfl on3 rfl) ?_ | refine Zab.go (Zaj rfl rfl (rfl) rfl on3 rfl) ?_
            refine goAs rfl rfl (Zaf (Zag (Za4 [[], [], [0, 1], [0, 1, 2], [0, 1, 2, 3], [0, 1, 2, 3], [0, 1, 2, 3, 4, 5], [0, 1, 2, 3, 4, 5, 6], [0, 1, 2, 3], [0, 1, 2, 3], [0, 1, 2, 3, 8, 9], [0, 1, 2, 3, 8, 9, 10], [0, 1, 2, 3, 4, 5, 6, 7, 8, 9, 10, 11], [0, 1, 2, 3, 4, 5, 6, 7, 8, 9, 10, 11, 12], [0, 1, 2, 3, 4, 5, 6, 7, 8, 9, 10, 11, 12, 13], [0, 1, 2, 3, 4, 5, 6, 7, 8, 9, 10, 11, 12, 13, 14], [0, 1, 2, 3, 4, 5, 6, 7, 8, 9, 10, 11, 12, 13, 14], [0, 1, 2, 3, 4, 5, 6, 7, 8, 9, 10, 11, 12, 13, 14, 15, 16], [0, 1, 2, 3, 4, 5, 6, 7, 8, 9, 10, 11, 12, 13, 14, 15, 16, 17], [0, 1, 2, 3, 4, 5, 6, 7, 8, 9, 10, 11, 12, 13, 14], [0, 1, 2, 3, 4, 5, 6, 7, 8, 9, 10, 11, 12, 13, 14, 15, 16, 17, 18, 19], [0, 1, 2, 3, 4, 5, 6, 7, 8, 9, 10, 11, 12, 13, 14, 15, 16, 17, 18, 19, 20], [0, 1, 2, 3, 4, 5, 6, 7, 8, 9, 10, 11, 12, 13, 14, 15, 16, 17, 18, 19, 20, 21], [0, 1, 2, 3, 4, 5, 6, 7, 8, 9, 10, 11, 12, 13, 14, 15, 16, 17, 18, 19, 20, 21, 22], [0, 1, 2, 3, 4, 5, 6, 7, 8, 9, 10, 11, 12, 13, 14, 15, 16, 17, 18, 19, 20, 21, 22, 23], [0, 1, 2, 3, 4, 5, 6, 7, 8, 9, 10, 11, 12, 13, 14, 15, 16, 17, 18, 19, 20, 21, 22, 23, 24], [0, 1, 2, 3, 4, 5, 6, 7, 8, 9, 10, 11, 12, 13, 14, 15, 16, 17, 18, 19, 20, 21, 22, 23, 24, 25], [0, 1, 2, 3, 4, 5, 6, 7, 8, 9, 10, 11, 12, 13, 14, 15, 16, 17, 18, 19, 20, 21, 22, 23, 24, 25], [0, 1, 2, 3, 4, 5, 6, 7, 8, 9, 10, 11, 12, 13, 14, 15, 16, 17, 18, 19, 20, 21, 22, 23, 24, 25, 26, 27], [0, 1, 2, 3, 4, 5, 6, 7, 8, 9, 10, 11, 12, 13, 14, 15, 16, 17, 18, 19, 20, 21, 22, 23, 24, 25, 26, 27, 28], [0, 1, 2, 3, 4, 5, 6, 7, 8, 9, 10, 11, 12, 13, 14, 15, 16, 17, 18, 19, 20, 21, 22, 23, 24, 25, 26, 27, 28, 29]] mixed rfl (dws ?_))))
            first | refine Zad [17] [] rfl rfl (fun _ => Zaa (Zah rfl rfl)) ?_ | refine Zac [17] rfl rfl (fun _ => Zaa (Zah rfl rfl)) ?_
            first | refine Zad [11] [] rfl rfl (fun _ => Zaa (Zah rfl rfl)) ?_ | refine Zac [11] rfl rfl (fun _ => Zaa (Zah rfl rfl)) ?_
            refine dwc 2 rfl rfl rfl (dw1 3 rfl rfl ?_)
            first | refine Zab.go (st_gtr rfl rfl rfl) ?_ | refine Zab.go (ZbF rfl rfl rfl) ?_
            refine Zaf ⟨rfl, ?_⟩;refine dw1 4 rfl rfl (goMv rfl rfl ?_)
            first | refine Zbw 92 rfl (fun h92 => ?_) (fun h92 => ?_) | refine Zbj 92 rfl (fun h92 => ?_) (fun h92 => ?_)
            · refine Zaf ⟨rfl, ?_⟩;refine dws ?_
              first | refine Zad [7, 92] [] rfl rfl (fun _ => Zan rfl rfl rfl (Zah rfl rfl)) ?_ | refine Zac [7, 92] rfl rfl (fun _ => Zan rfl rfl rfl (Zah rfl rfl)) ?_
              first | refine Zad [17, 92] [] rfl rfl (fun _ => Zan rfl rfl rfl (Zah rfl rfl)) ?_ | refine Zac [17, 92] rfl rfl (fun _ => Zan rfl rfl rfl (Zah rfl rfl)) ?_
              first | refine Zad [93, 94, 92] [] rfl rfl (fun _ => Zan rfl rfl rfl (Zam (u) rfl rfl (rfl) (hgu) Try.underlying25 rfl sz3 rfl)) ?_ | refine Zac [93, 94, 92] rfl rfl (fun _ => Zan rfl rfl rfl (Zam (u) rfl rfl (rfl) (hgu) Try.underlying25 rfl sz3 rfl)) ?_ | refine Zad [93, 94, 92] [] rfl rfl (fun _ => Zan rfl rfl rfl (Zal (u) rfl rfl (rfl) (hgu) rfl Try.underlying25 sz3 rfl)) ?_ | refine Zac [93, 94, 92] rfl rfl (fun _ => Zan rfl rfl rfl (Zal (u) rfl rfl (rfl) (hgu) rfl Try.underlying25 sz3 rfl)) ?_
              first | refine Zad [95, 92] [] rfl rfl (fun _ => Zan rfl rfl rfl (Zai rfl rfl on3 rfl)) ?_ | refine Zac [95, 92] rfl rfl (fun _ => Zan rfl rfl rfl (Zai rfl rfl on3 rfl)) ?_ | refine Zad [95, 92] [] rfl rfl (fun _ => Zan rfl rfl rfl (Zak rfl rfl rfl on3 rfl)) ?_ | refine Zac [95, 92] rfl rfl (fun _ => Zan rfl rfl rfl (Zak rfl rfl rfl on3 rfl)) ?_ | refine Zad [95, 92] [] rfl rfl (fun _ => Zan rfl rfl rfl (Zaj rfl rfl (rfl) rfl on3 rfl)) ?_ | refine Zac [95, 92] rfl rfl (fun _ => Zan rfl rfl rfl (Zaj rfl rfl (rfl) rfl on3 rfl)) ?_
              first | refine Zad [7, 92] [] rfl rfl (fun _ => Zan rfl rfl rfl (Zah rfl rfl)) ?_ | refine Zac [7, 92] rfl rfl (fun _ => Zan rfl rfl rfl (Zah rfl rfl)) ?_
              first | refine Zad [11, 92] [] rfl rfl (fun _ => Zan rfl rfl rfl (Zah rfl rfl)) ?_ | refine Zac [11, 92] rfl rfl (fun _ => Zan rfl rfl rfl (Zah rfl rfl)) ?_
              first | refine Zad [97, 98, 92] [] rfl rfl (fun _ => Zan rfl rfl rfl (Zam (i) rfl rfl (rfl) (hgi) Try.underlying25 rfl sz3 rfl)) ?_ | refine Zac [97, 98, 92] rfl rfl (fun _ => Zan rfl rfl rfl (Zam (i) rfl rfl (rfl) (hgi) Try.underlying25 rfl sz3 rfl)) ?_ | refine Zad [97, 98, 92] [] rfl rfl (fun _ => Zan rfl rfl rfl (Zal (i) rfl rfl (rfl) (hgi) rfl Try.underlying25 sz3 rfl)) ?_ | refine Zac [97, 98, 92] rfl rfl (fun _ => Zan rfl rfl rfl (Zal (i) rfl rfl (rfl) (hgi) rfl Try.underlying25 sz3 rfl)) ?_
              first | refine Zad [99, 92] [] rfl rfl (fun _ => Zan rfl rfl rfl (Zai rfl rfl on3 rfl)) ?_ | refine Zac [99, 92] rfl rfl (fun _ => Zan rfl rfl rfl (Zai rfl rfl on3 rfl)) ?_ | refine Zad [99, 92] [] rfl rfl (fun _ => Zan rfl rfl rfl (Zak rfl rfl rfl on3 rfl)) ?_ | refine Zac [99, 92] rfl rfl (fun _ => Zan rfl rfl rfl (Zak rfl rfl rfl on3 rfl)) ?_ | refine Zad [99, 92] [] rfl rfl (fun _ => Zan rfl rfl rfl (Zaj rfl rfl (rfl) rfl on3 rfl)) ?_ | refine Zac [99, 92] rfl rfl (fun _ => Zan rfl rfl rfl (Zaj rfl rfl (rfl) rfl on3 rfl)) ?_
              refine dwc 12 rfl rfl rfl (dw1 13 rfl rfl (ZaH rfl rfl rfl ?_))
              first | refine Zab.go (Zby rfl rfl rfl) ?_ | refine Zab.go (Zbb rfl rfl rfl) ?_ | refine Zab.go (Zbk rfl rfl rfl) ?_ | refine Zab.go (Zbr Try.underlying3 rfl rfl rfl) ?_ | refine Zab.go (Zbo Try.underlying3 rfl rfl rfl) ?_ | refine Zab.go (Zbp Try.underlying3 rfl rfl) ?_ | refine Zab.go (Zbq Try.underlying3 rfl rfl rfl) ?_ | refine Zab.go (Zbc Try.underlying3 rfl rfl) ?_
              refine Zaf ⟨rfl, ?_⟩;refine dw1 14 rfl rfl (Zab.go (Za8 rfl rfl rfl rfl) (Zaf ⟨rfl, ?_⟩));refine dw1 15 rfl rfl (goMv rfl rfl ?_)
              first | refine Zbw 103 rfl (fun h103 => ?_) (fun h103 => ?_) | refine Zbj 103 rfl (fun h103 => ?_) (fun h103 => ?_)
              · refine Zaf ⟨rfl, ?_⟩;refine dws ?_
                first | refine Zad [12, 103] [] rfl rfl (fun _ => Zan rfl rfl rfl (Zah rfl rfl)) ?_ | refine Zac [12, 103] rfl rfl (fun _ => Zan rfl rfl rfl (Zah rfl rfl)) ?_
                first | refine Zad [17, 103] [] rfl rfl (fun _ => Zan rfl rfl rfl (Zah rfl rfl)) ?_ | refine Zac [17, 103] rfl rfl (fun _ => Zan rfl rfl rfl (Zah rfl rfl)) ?_
                first | refine Zad [104, 105, 103] [] rfl rfl (fun _ => Zan rfl rfl rfl (Zam (u) rfl rfl (rfl) (getDl (by rw [hrl]; exact hul)) Try.underlying25 rfl sz3 rfl)) ?_ | refine Zac [104, 105, 103] rfl rfl (fun _ => Zan rfl rfl rfl (Zam (u) rfl rfl (rfl) (getDl (by rw [hrl]; exact hul)) Try.underlying25 rfl sz3 rfl)) ?_ | refine Zad [104, 105, 103] [] rfl rfl (fun _ => Zan rfl rfl rfl (Zal (u) rfl rfl (rfl) (getDl (by rw [hrl]; exact hul)) rfl Try.underlying25 sz3 rfl)) ?_ | refine Zac [104, 105, 103] rfl rfl (fun _ => Zan rfl rfl rfl (Zal (u) rfl rfl (rfl) (getDl (by rw [hrl]; exact hul)) rfl Try.underlying25 sz3 rfl)) ?_
                first | refine Zad [106, 103] [] rfl rfl (fun _ => Zan rfl rfl rfl (Zai rfl rfl on3 rfl)) ?_ | refine Zac [106, 103] rfl rfl (fun _ => Zan rfl rfl rfl (Zai rfl rfl on3 rfl)) ?_ | refine Zad [106, 103] [] rfl rfl (fun _ => Zan rfl rfl rfl (Zak rfl rfl rfl on3 rfl)) ?_ | refine Zac [106, 103] rfl rfl (fun _ => Zan rfl rfl rfl (Zak rfl rfl rfl on3 rfl)) ?_ | refine Zad [106, 103] [] rfl rfl (fun _ => Zan rfl rfl rfl (Zaj rfl rfl (rfl) rfl on3 rfl)) ?_ | refine Zac [106, 103] rfl rfl (fun _ => Zan rfl rfl rfl (Zaj rfl rfl (rfl) rfl on3 rfl)) ?_
                first | refine Zad [14, 103] [] rfl rfl (fun _ => Zan rfl rfl rfl (Zah rfl rfl)) ?_ | refine Zac [14, 103] rfl rfl (fun _ => Zan rfl rfl rfl (Zah rfl rfl)) ?_
                refine dwc 20 rfl rfl rfl (dw1 21 rfl rfl (ZaH rfl rfl rfl ?_))
                first | refine Zab.go (Zby rfl rfl rfl) ?_ | refine Zab.go (Zbb rfl rfl rfl) ?_ | refine Zab.go (Zbk rfl rfl rfl) ?_ | refine Zab.go (Zbr Try.underlying3 rfl rfl rfl) ?_ | refine Zab.go (Zbo Try.underlying3 rfl rfl rfl) ?_ | refine Zab.go (Zbp Try.underlying3 rfl rfl) ?_ | refine Zab.go (Zbq Try.underlying3 rfl rfl rfl) ?_ | refine Zab.go (Zbc Try.underlying3 rfl rfl) ?_
                refine Zaf ⟨rfl, ?_⟩;refine dw1 22 rfl rfl (Zab.go (Za8 rfl rfl rfl rfl) (Zaf ⟨rfl, ?_⟩));refine dw1 23 rfl rfl (goMv rfl rfl ?_)
                first | refine Zbw 111 rfl (fun h111 => ?_) (fun h111 => ?_) | refine Zbj 111 rfl (fun h111 => ?_) (fun h111 => ?_)
                · refine Zaf ⟨rfl, ?_⟩;refine dw1 24 rfl rfl (ZaH rfl rfl rfl (goMv rfl rfl (Zaf ⟨rfl, ?_⟩)));refine dw1 25 rfl rfl (ZaH rfl rfl rfl ?_)
                  first | refine Zab.go (ZaY rfl rfl rfl) ?_ | refine Zab.go (ZaT rfl rfl rfl) ?_
                  refine Zaf ⟨rfl, ?_⟩;refine dw1 26 rfl rfl (ZaH rfl rfl rfl (goMv rfl rfl ?_))
                  first | refine Zbw 114 rfl (fun h114 => ?_) (fun h114 => ?_) | refine Zbj 114 rfl (fun h114 => ?_) (fun h114 => ?_)
                  · refine Zaf ⟨rfl, ?_⟩;refine dws (Zad [17, 114] [] rfl rfl (fun _ => ZaI rfl rfl rfl rfl) (Zad [15, 114] [] rfl rfl (fun _ => ZaI rfl rfl rfl rfl) (dwc 28 rfl rfl rfl (dw1 29 rfl rfl (ZaG rfl rfl rfl rfl (Zaf ⟨rfl, ?_⟩))))));refine dw1 30 rfl rfl (ZaH rfl rfl rfl (Zab.go (Za8 rfl rfl rfl rfl) (Zaf ⟨rfl, ?_⟩)));refine dw1 31 rfl rfl (Zab.go (Za8 rfl rfl rfl rfl) (Zaf ⟨rfl, ?_⟩));refine dwe ?_;refine a_true rfl rfl (Zae (goMv rfl rfl (goAs rfl rfl (Zaf (Zae (Zab.go (ZaJ rfl rfl (IntWalk.i64_in _ (by omega)) rfl) (goMv rfl rfl (Zaf ?_))))))));exact ⟨(k + 1, some u), ⟨hkl, htk ▸ ss_take hS ⟨Int.ofNat_lt.1 h92, hno (Int.ofNat.inj h103), Int.ofNat.inj h111⟩ (enc_neg h114)⟩, by show (sucs g (nth out (out.length - 1))).length - (k + 1) < (sucs g (nth out (out.length - 1))).length - k; omega, Zax hF [3] rfl (rfl) ⟨rfl, rfl, rfl, rfl, rfl, rfl, rfl, rfl, rfl, rfl, rfl, rfl, rfl, rfl, rfl, trivial⟩⟩
                  · refine Zaf ⟨rfl, ?_⟩;refine dws ?_
                    first | refine Zad [17, 114] [] rfl rfl (fun _ => Zan rfl rfl rfl (Zah rfl rfl)) ?_ | refine Zac [17, 114] rfl rfl (fun _ => Zan rfl rfl rfl (Zah rfl rfl)) ?_
                    first | refine Zad [15, 114] [] rfl rfl (fun _ => Zan rfl rfl rfl (Zah rfl rfl)) ?_ | refine Zac [15, 114] rfl rfl (fun _ => Zan rfl rfl rfl (Zah rfl rfl)) ?_
                    refine dwc 28 rfl rfl rfl (dw1 29 rfl rfl (ZaH rfl rfl rfl ?_))
                    first | refine Zab.go (ZaY rfl rfl rfl) ?_ | refine Zab.go (ZaT rfl rfl rfl) ?_
                    refine Zaf ⟨rfl, ?_⟩;refine dw1 30 rfl rfl (ZaH rfl rfl rfl (Zab.go (ZaW rfl rfl rfl rfl) (Zaf ⟨rfl, ?_⟩)));refine dw1 31 rfl rfl (Zab.go (Za8 rfl rfl rfl rfl) (Zaf ⟨rfl, ?_⟩));refine dwe ?_
                    first | refine ZaU rfl (fun h119 => ?_) (fun h119 => ?_) | refine ZaF rfl (fun h119 => ?_) (fun h119 => ?_)
                    · refine Zae (goMv rfl rfl (goAs rfl rfl (Zaf (Zae (Zab.go (ZaJ rfl rfl (IntWalk.i64_in _ (by omega)) rfl) (goMv rfl rfl (Zaf ?_)))))));exact ⟨(k + 1, some u), ⟨hkl, htk ▸ ss_take hS ⟨Int.ofNat_lt.1 h92, hno (Int.ofNat.inj h103), Int.ofNat.inj h111⟩ (enc_lt h119)⟩, by show (sucs g (nth out (out.length - 1))).length - (k + 1) < (sucs g (nth out (out.length - 1))).length - k; omega, Zax hF [3] rfl (rfl) ⟨rfl, rfl, rfl, rfl, rfl, rfl, rfl, rfl, rfl, rfl, rfl, rfl, rfl, rfl, rfl, trivial⟩⟩
                    · refine ZaC (Zae (Zab.go (ZaJ rfl rfl (IntWalk.i64_in _ (by omega)) rfl) (goMv rfl rfl (Zaf ?_))));exact ⟨(k + 1, o), ⟨hkl, htk ▸ ss_skip hS (fun h => enc_ge h114 h119 h.2)⟩, by show (sucs g (nth out (out.length - 1))).length - (k + 1) < (sucs g (nth out (out.length - 1))).length - k; omega, Zax hF [3] rfl (rfl) ⟨rfl, rfl, rfl, rfl, rfl, rfl, rfl, rfl, rfl, rfl, rfl, rfl, rfl, rfl, rfl, trivial⟩⟩
                · refine Zaf ⟨rfl, ?_⟩;refine dw1 24 rfl rfl (ZaG rfl rfl rfl rfl (Zaf ⟨rfl, ?_⟩));refine dw1 25 rfl rfl (ZaG rfl rfl rfl rfl (Zaf ⟨rfl, ?_⟩));refine dw1 26 rfl rfl (ZaG rfl rfl rfl rfl (Zaf ⟨rfl, ?_⟩));refine dws (Zad [17, 114] [] rfl rfl (fun _ => ZbK rfl rfl rfl) (Zad [15, 114] [] rfl rfl (fun _ => ZbK rfl rfl rfl) (dwc 28 rfl rfl rfl (dw1 29 rfl rfl (o_passU rfl rfl rfl (Zaf ⟨rfl, ?_⟩))))));refine dw1 30 rfl rfl (ZaG rfl rfl rfl rfl (Zaf ⟨rfl, ?_⟩));refine dw1 31 rfl rfl (Zab.go (ZaW rfl rfl rfl rfl) (Zaf ⟨rfl, ?_⟩));refine dwe (Zbu rfl rfl (ZaC (Zae (Zab.go (ZaJ rfl rfl (IntWalk.i64_in _ (by omega)) rfl) (goMv rfl rfl (Zaf ?_))))));exact ⟨(k + 1, o), ⟨hkl, htk ▸ ss_skip hS (fun h => h111 (congrArg Int.ofNat h.1.2.2))⟩, by show (sucs g (nth out (out.length - 1))).length - (k + 1) < (sucs g (nth out (out.length - 1))).length - k; omega, Zax hF [3] rfl (rfl) ⟨rfl, rfl, rfl, rfl, rfl, rfl, rfl, rfl, rfl, rfl, rfl, rfl, rfl, rfl, rfl, trivial⟩⟩
              · refine Zaf ⟨rfl, ?_⟩;refine dws ?_;refine Zad [12, 103] [] rfl rfl (fun _ => ZaI rfl rfl rfl rfl) (Zad [17, 103] [] rfl rfl (fun _ => ZaI rfl rfl rfl rfl) (Zad [104, 105, 103] [] rfl rfl (fun _ => ZaI rfl rfl rfl rfl) (Zad [106, 103] [] rfl rfl (fun _ => ZaI rfl rfl rfl rfl) (Zad [14, 103] [] rfl rfl (fun _ => ZaI rfl rfl rfl rfl) (dwc 20 rfl rfl rfl (dw1 21 rfl rfl (ZaG rfl rfl rfl rfl (Zaf ⟨rfl, ?_⟩))))))));refine dw1 22 rfl rfl (Zab.go (ZaW rfl rfl rfl rfl) (Zaf ⟨rfl, ?_⟩));refine dw1 23 rfl rfl (goMv rfl rfl (Zaf ⟨rfl, ?_⟩));refine dw1 24 rfl rfl (ZaG rfl rfl rfl rfl (Zaf ⟨rfl, ?_⟩));refine dw1 25 rfl rfl (ZaG rfl rfl rfl rfl (Zaf ⟨rfl, ?_⟩));refine dw1 26 rfl rfl (ZaG rfl rfl rfl rfl (Zaf ⟨rfl, ?_⟩));refine dws (Zad [17, 114] [] rfl rfl (fun _ => ZbK rfl rfl rfl) (Zad [15, 114] [] rfl rfl (fun _ => ZbK rfl rfl rfl) (dwc 28 rfl rfl rfl (dw1 29 rfl rfl (o_passU rfl rfl rfl (Zaf ⟨rfl, ?_⟩))))));refine dw1 30 rfl rfl (ZaG rfl rfl rfl rfl (Zaf ⟨rfl, ?_⟩));refine dw1 31 rfl rfl (Zab.go (ZaW rfl rfl rfl rfl) (Zaf ⟨rfl, ?_⟩));refine dwe (Zbu rfl rfl (ZaC (Zae (Zab.go (ZaJ rfl rfl (IntWalk.i64_in _ (by omega)) rfl) (goMv rfl rfl (Zaf ?_))))));exact ⟨(k + 1, o), ⟨hkl, htk ▸ ss_skip hS (fun h => h103 (congrArg Int.ofNat (hon h.1.2.1)))⟩, by show (sucs g (nth out (out.length - 1))).length - (k + 1) < (sucs g (nth out (out.length - 1))).length - k; omega, Zax hF [3] rfl (rfl) ⟨rfl, rfl, rfl, rfl, rfl, rfl, rfl, rfl, rfl, rfl, rfl, rfl, rfl, rfl, rfl, trivial⟩⟩
            · refine Zaf ⟨rfl, ?_⟩;refine dws (Zad [7, 92] [] rfl rfl (fun _ => ZaI rfl rfl rfl rfl) (Zad [17, 92] [] rfl rfl (fun _ => ZaI rfl rfl rfl rfl) (Zad [93, 94, 92] [] rfl rfl (fun _ => ZaI rfl rfl rfl rfl) ?_)));refine Zad [95, 92] [] rfl rfl (fun _ => ZaI rfl rfl rfl rfl) (Zad [7, 92] [] rfl rfl (fun _ => ZaI rfl rfl rfl rfl) (Zad [11, 92] [] rfl rfl (fun _ => ZaI rfl rfl rfl rfl) (Zad [97, 98, 92] [] rfl rfl (fun _ => ZaI rfl rfl rfl rfl) (Zad [99, 92] [] rfl rfl (fun _ => ZaI rfl rfl rfl rfl) (dwc 12 rfl rfl rfl (dw1 13 rfl rfl (ZaG rfl rfl rfl rfl (Zaf ⟨rfl, ?_⟩))))))));refine dw1 14 rfl rfl (Zab.go (ZaW rfl rfl rfl rfl) (Zaf ⟨rfl, ?_⟩));refine dw1 15 rfl rfl (goMv rfl rfl (Zaf ⟨rfl, ?_⟩));refine dws ?_;refine Zad [12, 103] [] rfl rfl (fun _ => ZaI rfl rfl rfl rfl) (Zad [17, 103] [] rfl rfl (fun _ => ZaI rfl rfl rfl rfl) (Zad [104, 105, 103] [] rfl rfl (fun _ => ZaI rfl rfl rfl rfl) (Zad [106, 103] [] rfl rfl (fun _ => ZaI rfl rfl rfl rfl) (Zad [14, 103] [] rfl rfl (fun _ => ZaI rfl rfl rfl rfl) (dwc 20 rfl rfl rfl (dw1 21 rfl rfl (ZaG rfl rfl rfl rfl (Zaf ⟨rfl, ?_⟩))))))));refine dw1 22 rfl rfl (Zab.go (ZaW rfl rfl rfl rfl) (Zaf ⟨rfl, ?_⟩));refine dw1 23 rfl rfl (goMv rfl rfl (Zaf ⟨rfl, ?_⟩));refine dw1 24 rfl rfl (ZaG rfl rfl rfl rfl (Zaf ⟨rfl, ?_⟩));refine dw1 25 rfl rfl (ZaG rfl rfl rfl rfl (Zaf ⟨rfl, ?_⟩));refine dw1 26 rfl rfl (ZaG rfl rfl rfl rfl (Zaf ⟨rfl, ?_⟩));refine dws (Zad [17, 114] [] rfl rfl (fun _ => ZbK rfl rfl rfl) (Zad [15, 114] [] rfl rfl (fun _ => ZbK rfl rfl rfl) (dwc 28 rfl rfl rfl (dw1 29 rfl rfl (o_passU rfl rfl rfl (Zaf ⟨rfl, ?_⟩))))));refine dw1 30 rfl rfl (ZaG rfl rfl rfl rfl (Zaf ⟨rfl, ?_⟩));refine dw1 31 rfl rfl (Zab.go (ZaW rfl rfl rfl rfl) (Zaf ⟨rfl, ?_⟩));refine dwe (Zbu rfl rfl (ZaC (Zae (Zab.go (ZaJ rfl rfl (IntWalk.i64_in _ (by omega)) rfl) (goMv rfl rfl (Zaf ?_))))));exact ⟨(k + 1, o), ⟨hkl, htk ▸ ss_skip hS (fun h => h92 (Int.ofNat_lt.2 h.1.1))⟩, by show (sucs g (nth out (out.length - 1))).length - (k + 1) < (sucs g (nth out (out.length - 1))).length - k; omega, Zax hF [3] rfl (rfl) ⟨rfl, rfl, rfl, rfl, rfl, rfl, rfl, rfl, rfl, rfl, rfl, rfl, rfl, rfl, rfl, trivial⟩⟩
          · refine ZaL (Zag ?_);have hke : k = (sucs g (nth out (out.length - 1))).length := by have := h86; omega
            subst hke;rw [List.take_length] at hS;obtain ⟨u, hu⟩ := ss_some (lim := 0) hS (cand_ex hD hil hlast (by omega) (by omega) (by omega));subst hu;refine Zae (goMv rfl rfl (goMv rfl rfl (Zaw.go (ZaN 22 sl25 rfl rfl rfl rfl rfl rfl rfl rfl) (Zaw.go (st_appM (emb := natD) out [u] rfl rfl rfl rfl rfl rfl rfl rfl sl25 (by show (out.length + 1) * 8 ≤ _; omega) rfl rfl rfl rfl) (goAs rfl rfl (Zaf (Zae (goMv rfl rfl ?_))))))));refine o_as 126 (.d (natD (nth (out ++ [u]) ((out ++ [u]).length - 1)))) rfl (by rw [show nth (out ++ [u]) ((out ++ [u]).length - 1) = u by simp [nth]]; rfl) (goAs rfl rfl (Zaf (Zae (goMv rfl rfl (Zab.go (Zbl rfl rfl (IntWalk.i64_in _ (by omega)) rfl) (o_as 79 (.d (natD (d i - (out ++ [u]).length))) rfl (eqv (congrArg intD (by rw [List.length_append, List.length_singleton]; omega))) (goAs rfl rfl (Zaf ?_))))))));exact ⟨out ++ [u], ⟨(ps_next hg.gb hP hS).1, by rw [List.length_append, List.length_singleton]; omega⟩, by rw [List.length_append, List.length_singleton]; omega, Zax hF [3] rfl (rfl) ⟨rfl, rfl, rfl, rfl, rfl, rfl, rfl, rfl, rfl, rfl, rfl, rfl, trivial⟩⟩
        · refine ZaL ?_
          first | (have hol2 : out.length = d i := (by have := h77; omega); refine Zbm (emb := natD) 10 3 out rfl rfl rfl rfl rfl rfl rfl ?_) | skip
          refine Zae (Zab.go (ZaJ rfl rfl (IntWalk.i64_in _ (by omega)) rfl) (goMv rfl rfl (Zaf ?_)));exact ⟨(i + 1, d i, out), ⟨hil, ci_new hC hil hD hd0 hP (by omega)⟩, by show g.length - (i + 1) < g.length - i; omega, ⟨rfl, rfl, fun _ _ => Has.get (l := [(0, _), (6, _), (7, _), (8, _), (9, _), (10, _), (34, _), (35, _)]) ⟨rfl, rfl, rfl, rfl, rfl, rfl, rfl, rfl, trivial⟩⟩⟩
  · refine ZaL (Zag ?_);have hin : i = g.length := by have := h36; omega
    subst hin;refine Zae (goMv rfl rfl (goMv rfl rfl ?_))
    first | refine Zab.go (Za1 rfl Try.underlying25 rfl) ?_ | refine Zab.go (ZaD rfl rfl Try.underlying25 rfl) ?_ | refine Zab.go (Zbh rfl Try.underlying25 rfl) ?_ | refine Zab.go (Za9 rfl Try.underlying25 rfl) ?_ | refine Zab.go (Zbi rfl Try.underlying25 rfl) ?_ | refine Zab.go (Zbe rfl Try.underlying25 rfl) ?_
    first | refine Zab.go (st_gtr rfl rfl rfl) ?_ | refine Zab.go (ZbF rfl rfl rfl) ?_
    refine goAs rfl rfl (goAs rfl rfl (goAs rfl rfl (Zaf (Zbg ?_))));exact ⟨_, [], [], ZaZ rfl, rfl, rfl, best, out, hC, by rw [show decide (out ≠ []) = decide ((0 : Int) < (out.length : Int)) from decide_eq_decide.2 ⟨fun h => by have := List.length_pos_iff.2 h; omega, fun h e => by rw [e] at h; exact absurd h (by decide)⟩], rfl⟩
end Go.Proofs.Ytgdppeobgefogaa
/- Layer 31: the example's components and cycle. Plain laws. -/
namespace Go.Proofs.Ytgdppeobgefogaa
open Go.RowKit
abbrev g0 : List (List Nat) := [[1], [2], [1, 3], []]
def no0 : Nat → Nat := fun v => if v = 0 then 0 else if v = 3 then 2 else 1
theorem lt4 {v : Nat} (h : v < 4) : v = 0 ∨ v = 1 ∨ v = 2 ∨ v = 3 := by omega
theorem suc0 {v y : Nat} (h : y ∈ sucs g0 v) : (v = 0 ∧ y = 1) ∨ (v = 1 ∧ y = 2) ∨ (v = 2 ∧ (y = 1 ∨ y = 3)) := by
  match v, h with
  | 0, h => simp [sucs] at h; exact .inl ⟨rfl, h⟩
  | 1, h => simp [sucs] at h; exact .inr (.inl ⟨rfl, h⟩)
  | 2, h => simp [sucs] at h; exact .inr (.inr ⟨rfl, h⟩)
  | 3, h => simp [sucs] at h
  | v + 4, h => simp [sucs] at h
theorem g0_gt : GT g0 := ⟨⟨by decide, by decide, by decide⟩, by decide⟩
theorem rh0 {u v : Nat} (h : Rh (sucs g0) u v) : no0 u ≤ no0 v := by
  induction h with
  | refl => exact Nat.le_refl _
  | step _ e ih =>
    refine Nat.le_trans ih ?_;rcases suc0 e with ⟨rfl, rfl⟩ | ⟨rfl, rfl⟩ | ⟨rfl, rfl | rfl⟩ <;> decide
theorem cn0 : CN g0.length (sucs g0) no0 3 := by
  have h12 : Rh (sucs g0) 1 2 := Rh.one (by decide);have h21 : Rh (sucs g0) 2 1 := Rh.one (by decide);refine ⟨fun v hv => ?_, fun i j hi hj => ?_, fun c hc => ?_, fun u v hu hv he => ?_, fun c hc i hi hci _ => ?_⟩
  · rcases lt4 hv with rfl | rfl | rfl | rfl <;> decide
  · constructor
    · intro e
      rcases lt4 hi with rfl | rfl | rfl | rfl <;> rcases lt4 hj with rfl | rfl | rfl | rfl <;> first
        | exact ⟨.refl _, .refl _⟩
        | exact ⟨h12, h21⟩
        | exact ⟨h21, h12⟩
        | exact absurd e (by decide)
    · rintro ⟨h1, h2⟩;exact Nat.le_antisymm (rh0 h1) (rh0 h2)
  · rcases (show c = 0 ∨ c = 1 ∨ c = 2 by omega) with rfl | rfl | rfl
    · exact ⟨0, by decide, rfl⟩
    · exact ⟨1, by decide, rfl⟩
    · exact ⟨3, by decide, rfl⟩
  · exact rh0 (Rh.one he)
  · rcases (show c = 0 ∨ c = 1 ∨ c = 2 by omega) with rfl | rfl | rfl
    · exact ⟨0, by decide, rfl, Nat.zero_le _⟩
    · refine ⟨1, by decide, rfl, ?_⟩;rcases lt4 hi with rfl | rfl | rfl | rfl
      · exact absurd hci (by decide)
      all_goals decide
    · refine ⟨3, by decide, rfl, ?_⟩;rcases lt4 hi with rfl | rfl | rfl | rfl
      · exact absurd hci (by decide)
      · exact absurd hci (by decide)
      · exact absurd hci (by decide)
      · decide
theorem com0 : comC g0 = [[0], [1, 2], [3]] := by
  obtain ⟨_, h1, h2⟩ := conC_of g0_gt.gb cn0;unfold comC;rw [← h1, ← outT_congr h2]
  decide
theorem no0_eq {v : Nat} (hv : v < 4) : nth (noL g0) v = no0 v := by
  rw [ZbJ hv]; exact ((conC_of g0_gt.gb cn0).2.2 v hv).symm
theorem wk1 {s v : Nat} (h : Wk (revG g0) (okS g0 s) s 1 v) (hs : s < 4) : v < 4 ∧ s ≤ v ∧ s ∈ sucs g0 v := by
  obtain ⟨hok, x, hx, hm⟩ := h;have hx : x = s := hx;subst hx;obtain ⟨h1, h2⟩ := (revG_mem (g := g0) hs).1 hm;exact ⟨h1, hok.1, h2⟩
theorem cyc0 {best : Nat} {out : List Nat} (h : CI g0 g0.length best out) : out = [1, 2] := by
  have hw : Wk (revG g0) (okS g0 1) 1 2 1 := by
    refine ⟨⟨Nat.le_refl _, rfl⟩, 2, ⟨⟨by decide, ?_⟩, 1, rfl, (revG_mem (g := g0) (by decide)).2 ⟨by decide, by decide⟩⟩, (revG_mem (g := g0) (by decide)).2 ⟨by decide, by decide⟩⟩;rw [no0_eq (by decide), no0_eq (by decide)]; rfl
  have hb : best ≤ 2 := by
    rcases Nat.lt_or_ge 2 best with hl | hl
    · exact (h.no 1 (by decide) 2 (by decide) hl hw).elim
    · exact hl
  have hb1 := h.b1.1;have hne : out ≠ [] := fun e => by have := h.none e; have e4 : g0.length = 4 := rfl; omega
  obtain ⟨s, lim, d, hs, hD, hds, hP, hlen, _⟩ := h.some hne;have hs : s < 4 := hs;have hW := (hD.a s (by omega)).1;rw [hds] at hW
  have hb2 : best = 2 := by
    rcases (show best = 1 ∨ best = 2 by omega) with e | e
    · subst e;have := suc0 (wk1 hW hs).2.2;omega
    · exact e
  subst hb2;obtain ⟨_, x, hx, hm⟩ := hW;obtain ⟨hx1, hx2, hx3⟩ := wk1 hx hs;obtain ⟨_, hx4⟩ := (revG_mem (g := g0) hx1).1 hm;have h1 := suc0 hx3;have h2 := suc0 hx4;have e : s = 1 := by omega
  subst e
  match out, hlen with
  | [a, b], _ =>
    have ha : a = 1 := hP.hd;subst ha;have hb : b ∈ sucs g0 1 := (hP.stp 0 (by simp)).1;have := suc0 hb;have : b = 2 := by omega
    rw [this]
end Go.Proofs.Ytgdppeobgefogaa
