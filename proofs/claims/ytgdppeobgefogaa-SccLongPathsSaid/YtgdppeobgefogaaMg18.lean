/- Layer 31: paths and rings. Plain laws. -/
import Derived.Test.YtgdppeobgefogaaMg17
namespace Go.Proofs.Ytgdppeobgefogaa
open Go.RowKit
def sucP (n : Nat) (ring : Bool) (i : Nat) : List Nat := if i + 1 < n then [i + 1] else if ring = true then [0] else []
def gP (n : Nat) (ring : Bool) : List (List Nat) := grF n (sucP n ring)
theorem Zbq (n : Nat) (r : Bool) : (gP n r).length = n := ZbA _ _
theorem gP_suc {n i : Nat} {r : Bool} (h : i < n) : sucs (gP n r) i = sucP n r i := grF_sucs h
theorem sucP_len (n : Nat) (r : Bool) (i : Nat) : (sucP n r i).length ≤ 1 := by
  unfold sucP; split
  · simp
  · split <;> simp
theorem gP_gt {n : Nat} {r : Bool} (hn : n ≤ 20000) : GT (gP n r) := by
  refine ⟨⟨by rw [Zbq]; omega, fun l hl => ?_, fun l hl x hx => ?_⟩, ?_⟩
  · obtain ⟨i, _, rfl⟩ := List.mem_map.1 hl;have := sucP_len n r i; omega
  · obtain ⟨i, hi, rfl⟩ := List.mem_map.1 hl;have hi := List.mem_range.1 hi;rw [Zbq];unfold sucP at hx
    split at hx
    · rw [List.mem_singleton.1 hx]; omega
    · split at hx
      · rw [List.mem_singleton.1 hx]; omega
      · cases hx
  · have key : ∀ m, m ≤ n → totG (gP n r) m ≤ m := by
      intro m
      induction m with
      | zero => intro _; exact Nat.le_refl _
      | succ m ih =>
        intro hm;have h1 := ih (by omega);have h2 := sucP_len n r m;have h3 : totG (gP n r) (m + 1) = totG (gP n r) m + (sucs (gP n r) m).length := by unfold totG; rw [List.range_succ, List.map_append, List.sum_append]; simp
        rw [h3, gP_suc (by omega)]; omega
    rw [Zbq];have := key n (Nat.le_refl _); omega
theorem sucF {n i y : Nat} (h : y ∈ sucP n false i) : y = i + 1 ∧ i + 1 < n := by
  unfold sucP at h
  split at h
  · exact ⟨List.mem_singleton.1 h, by assumption⟩
  · simp at h
theorem mem_sucP {n : Nat} {r : Bool} {i y : Nat} (h : y ∈ sucs (gP n r) i) : i < n ∧ y ∈ sucP n r i := by
  rcases Nat.lt_or_ge i n with hi | hi
  · rw [gP_suc hi] at h; exact ⟨hi, h⟩
  · have : sucs (gP n r) i = [] := by unfold sucs; rw [List.getD_eq_getElem?_getD, List.getElem?_eq_none (by rw [Zbq]; exact hi)]; rfl
    rw [this] at h; cases h
theorem rhP {n u v : Nat} (h : Rh (sucs (gP n false)) u v) : u ≤ v := by
  induction h with
  | refl => exact Nat.le_refl _
  | step _ e ih => have := sucF (mem_sucP e).2; omega
theorem cnP (n : Nat) : CN (gP n false).length (sucs (gP n false)) (fun v => v) n := by
  rw [Zbq];exact ⟨fun v hv => hv, fun i j _ _ => ⟨fun e => by have e : i = j := e; subst e; exact ⟨.refl _, .refl _⟩, fun h => Nat.le_antisymm (rhP h.1) (rhP h.2)⟩, fun c hc => ⟨c, hc, rfl⟩, fun u v _ _ e => rhP (Rh.one e), fun c hc i _ hci _ => ⟨c, hc, rfl, hci⟩⟩
theorem comP {n : Nat} (hn : n ≤ 20000) : (comC (gP n false)).length = n ∧ ∀ c, c < n → ∃ l, (comC (gP n false)).map natsD = (comC (gP n false)).map natsD ∧ sucs (comC (gP n false)) c = c :: l := by
  obtain ⟨_, h1, h2⟩ := conC_of (gP_gt (r := false) hn).gb (cnP n);rw [Zbq] at h2;refine ⟨by rw [comC, ZbA, ← h1], fun c hc => ?_⟩;rw [comC, Zbq, ← h1, ← outT_congr h2, grF_sucs hc];have hm : c ∈ outT (fun v => v) n c := List.mem_filter.2 ⟨List.mem_range.2 hc, by simp⟩
  cases e : outT (fun v => v) n c with
  | nil => rw [e] at hm; cases hm
  | cons x l =>
    have : x ∈ outT (fun v => v) n c := by rw [e]; exact List.mem_cons_self ..
    have : x = c := of_decide_eq_true (List.mem_filter.1 this).2;exact ⟨l, rfl, by rw [this]⟩
theorem nth_range {n i : Nat} (h : i < n) : nth (List.range n) i = i := by rw [Zbk (by simpa using h)]; simp
theorem ordP_ {n : Nat} : ordG (gP n false) idK = List.range n := by
  refine ordG_eq (fun a b _ _ h => h) (fun i hi => ?_) fun y hy => hy.2.1 (List.mem_range.2 (by have := hy.1; rwa [Zbq] at this));rw [List.length_range] at hi;rw [nth_range hi, List.take_range, Nat.min_eq_left (Nat.le_of_lt hi)];refine ⟨⟨by rw [Zbq]; exact hi, by simp, fun k hk hkn hm => ?_⟩, fun y hy => ?_⟩
  · have := sucF (mem_sucP hm).2;exact hkn (List.mem_range.2 (by omega))
  · have := hy.2.1;rw [List.mem_range] at this;show i ≤ y;omega
theorem wkP {n s : Nat} {ok : Nat → Prop} (hs : s < n) : ∀ k u, Wk (revG (gP n false)) ok s k u → u < n ∧ u + k = s
  | 0, u, h => by have h : u = s := h; subst h; exact ⟨hs, rfl⟩
  | k + 1, u, ⟨_, v, hv, hm⟩ => by
    obtain ⟨h1, h2⟩ := wkP hs k v hv;obtain ⟨h3, h4⟩ := (ZbU (g := gP n false) (by rw [Zbq]; exact h1)).1 hm;rw [Zbq] at h3;have := sucF (mem_sucP h4).2;exact ⟨h3, by omega⟩
theorem cycP {n best : Nat} {out : List Nat} (h : CI (gP n false) (gP n false).length best out) : out = [] := by
  refine Classical.byContradiction fun hne => ?_;obtain ⟨s, lim, d, hs, hD, hds, _⟩ := h.some hne;rw [Zbq] at hs;have hb := h.b1;have := (wkP hs _ _ (hD.a s (by omega)).1).2;omega
theorem sucT {n i : Nat} (h : i < n) : sucP n true i = [(i + 1) % n] := by
  unfold sucP
  split
  · rename_i h2; rw [Nat.mod_eq_of_lt h2]
  · rename_i h2
    rw [if_pos rfl, show i + 1 = n by omega, Nat.mod_self]
theorem rhT {n : Nat} (hn : 0 < n) : ∀ m i, i < n → Rh (sucs (gP n true)) i ((i + m) % n)
  | 0, i, hi => by rw [Nat.add_zero, Nat.mod_eq_of_lt hi]; exact .refl i
  | m + 1, i, hi => by
    refine .step (rhT hn m i hi) ?_;rw [gP_suc (Nat.mod_lt _ hn), sucT (Nat.mod_lt _ hn), List.mem_singleton, Nat.mod_add_mod]
    rfl
theorem rhT2 {n i j : Nat} (hi : i < n) (hj : j < n) : Rh (sucs (gP n true)) i j := by
  have := rhT (by omega) (n - i + j) i hi;rw [show i + (n - i + j) = n + j by omega, Nat.add_mod_left, Nat.mod_eq_of_lt hj] at this;exact this
theorem cnT {n : Nat} (hn : 0 < n) : CN (gP n true).length (sucs (gP n true)) (fun _ => 0) 1 := by
  rw [Zbq];exact ⟨fun v hv => by decide, fun i j hi hj => ⟨fun _ => ⟨rhT2 hi hj, rhT2 hj hi⟩, fun _ => rfl⟩, fun c hc => ⟨0, hn, by show 0 = c; omega⟩, fun u v _ _ e => Nat.le_refl _, fun c hc i _ hci _ => ⟨0, hn, by show 0 = c; omega, Nat.zero_le _⟩⟩
theorem comT {n : Nat} (hn0 : 0 < n) (hn : n ≤ 20000) : comC (gP n true) = [List.range n] := by
  obtain ⟨_, h1, h2⟩ := conC_of (gP_gt (r := true) hn).gb (cnT hn0);rw [Zbq] at h2;rw [comC, Zbq, ← h1, ← outT_congr h2];show [outT (fun _ => 0) n 0] = _
  congr 1
  exact List.filter_eq_self.2 fun x _ => rfl
theorem ordT {n : Nat} (hn : 0 < n) : ordG (gP n true) idK = [] := by
  refine ordG_eq (fun a b _ _ h => h) (fun i hi => by simp at hi) fun y hy => ?_;have hy1 : y < n := by have := hy.1; rwa [Zbq] at this
  refine hy.2.2 ((y + n - 1) % n) (by rw [Zbq]; exact Nat.mod_lt _ hn) (by simp) ?_;rw [gP_suc (Nat.mod_lt _ hn), sucT (Nat.mod_lt _ hn), List.mem_singleton, Nat.mod_add_mod, show y + n - 1 + 1 = y + n by omega, Nat.add_mod_right, Nat.mod_eq_of_lt hy1]
theorem revT_mem {n u v : Nat} (hv : v < n) (hm : u ∈ sucs (revG (gP n true)) v) : u < n ∧ v = (u + 1) % n := by
  obtain ⟨h3, h4⟩ := (ZbU (g := gP n true) (by rw [Zbq]; exact hv)).1 hm;rw [Zbq] at h3;rw [gP_suc h3, sucT h3, List.mem_singleton] at h4;exact ⟨h3, h4⟩
theorem wkT {n : Nat} {ok : Nat → Prop} (hn : 0 < n) : ∀ k u, Wk (revG (gP n true)) ok 0 k u → u < n ∧ (u + k) % n = 0
  | 0, u, h => by have h : u = 0 := h; subst h; exact ⟨hn, Nat.zero_mod _⟩
  | k + 1, u, ⟨_, v, hv, hm⟩ => by
    obtain ⟨h1, h2⟩ := wkT hn k v hv;obtain ⟨h3, h4⟩ := revT_mem h1 hm;refine ⟨h3, ?_⟩;rw [h4, Nat.mod_add_mod] at h2;rw [show u + (k + 1) = u + 1 + k by omega]; exact h2
theorem cycT {n best : Nat} {out : List Nat} (hn : 0 < n) (hn2 : n ≤ 20000) (h : CI (gP n true) (gP n true).length best out) : out.length = n ∧ ∀ j, j < n → nth out j = j := by
  have hno : ∀ v, v < n → nth (noL (gP n true)) v = 0 := fun v hv => by
    rw [ZbP (by rw [Zbq]; exact hv)];exact ((conC_of (gP_gt (r := true) hn2).gb (cnT hn)).2.2 v (by rw [Zbq]; exact hv)).symm
  have hw : ∀ k, k < n → Wk (revG (gP n true)) (okS (gP n true) 0) 0 (k + 1) (n - 1 - k) := by
    intro k
    induction k with
    | zero =>
      intro hk;refine ⟨⟨Nat.zero_le _, by rw [hno _ (by omega), hno _ hn]⟩, 0, rfl, (ZbU (g := gP n true) (by rw [Zbq]; exact hn)).2 ⟨by rw [Zbq]; omega, ?_⟩⟩;rw [gP_suc (by omega), sucT (by omega), List.mem_singleton, show n - 1 - 0 + 1 = n by omega, Nat.mod_self]
    | succ k ih =>
      intro hk;refine ⟨⟨Nat.zero_le _, by rw [hno _ (by omega), hno _ hn]⟩, n - 1 - k, ih (by omega), (ZbU (g := gP n true) (by rw [Zbq]; omega)).2 ⟨by rw [Zbq]; omega, ?_⟩⟩;rw [gP_suc (by omega), sucT (by omega), List.mem_singleton, show n - 1 - (k + 1) + 1 = n - 1 - k by omega, Nat.mod_eq_of_lt (by omega)]
  have hwn := hw (n - 1) (by omega);rw [show n - 1 + 1 = n by omega, Nat.sub_self] at hwn
  have hb : best ≤ n := by
    rcases Nat.lt_or_ge n best with hl | hl
    · exact (h.no 0 (by rw [Zbq]; exact hn) n hn hl hwn).elim
    · exact hl
  have hb1 := h.b1.1;have hne : out ≠ [] := fun e => by have := h.none e; rw [Zbq] at this; omega
  obtain ⟨s, lim, d, hs, hD, hds, hP, hlen, _⟩ := h.some hne;rw [Zbq] at hs
  have hs0 : s = 0 := by
    have hW := (hD.a s (by omega)).1;rw [hds] at hW
    have key : ∀ k u, Wk (revG (gP n true)) (okS (gP n true) s) s (k + 1) u → s = 0 := by
      intro k
      induction k with
      | zero =>
        rintro u ⟨hok, v, hv, hm⟩;have hv : v = s := hv;subst hv;obtain ⟨h3, h4⟩ := revT_mem hs hm;have := hok.1;rcases Nat.lt_or_ge (u + 1) n with h5 | h5
        · rw [Nat.mod_eq_of_lt h5] at h4; omega
        · rw [show u + 1 = n by omega, Nat.mod_self] at h4; exact h4
      | succ k ih => rintro u ⟨_, v, hv, _⟩; exact ih v hv
    obtain ⟨m, rfl⟩ : ∃ m, best = m + 1 := ⟨best - 1, by omega⟩
    exact key m s hW
  subst hs0;have hW := (hD.a 0 (by omega)).1;rw [hds] at hW;have := (wkT hn _ _ hW).2;rw [Nat.zero_add] at this
  have hbn : best = n := by
    rcases Nat.lt_or_ge best n with hl | hl
    · rw [Nat.mod_eq_of_lt hl] at this; omega
    · omega
  refine ⟨by rw [hlen, hbn], fun j => ?_⟩
  induction j with
  | zero => intro _; exact hP.hd
  | succ j ih =>
    intro hj;have h1 := (hP.stp j (by omega)).1;rw [ih (by omega), gP_suc (by omega), sucT (by omega), List.mem_singleton, Nat.mod_eq_of_lt (by omega)] at h1;exact h1
end Go.Proofs.Ytgdppeobgefogaa
/- 'girolaw31.SccLongPaths': for every input the law returns true. -/
namespace Go.Proofs.Ytgdppeobgefogaa
open Go.RowKit
abbrev u16V (a : Nat) : D := .raw (.int .u16 (a : Int))
def rowGf (i k : Nat) : List Nat := if i < k then [i + 1] else []
abbrev rowG (m k : Nat) : List D := (List.range m).map fun i => natsD (rowGf i k)
theorem rowG_len (m k : Nat) : (rowG m k).length = m := by simp
theorem one_rowG (m k : Nat) : ∀ x ∈ rowG m k, x.one = true := fun x hx => by obtain ⟨a, _, rfl⟩ := List.mem_map.1 hx; rfl
theorem nil_rowG (n : Nat) : ∀ (j : Nat) x y, (List.replicate n (D.sl (some true) []))[j]? = some x → (rowG n 0)[j]? = some y → ∀ w O v, RepD w O x v → RepD w O y v := by
  intro j x y hx hy w O v hr;have hj : j < n := by have := (List.getElem?_eq_some_iff.1 hx).1; rwa [List.length_replicate] at this
  have hy' : y = natsD [] := by
    rw [List.getElem?_map, List.getElem?_range hj] at hy;injection hy with hy
    rw [← hy];show natsD (rowGf j 0) = natsD [];unfold rowGf;rw [if_neg (Nat.not_lt_zero _)]
  have hx' : x = D.sl (some true) [] := by rw [List.getElem?_replicate, if_pos hj] at hx; injection hx with hx; exact hx.symm
  subst hx' hy';exact hr.anyNil
theorem rowG_set {m k : Nat} : (rowG m k).set k (natsD [k + 1]) = rowG m (k + 1) :=
  row_set (fun j _ hne => by
    unfold rowGf
    by_cases h : j < k
    · rw [if_pos h, if_pos (by omega)]
    · rw [if_neg h, if_neg (by omega)]) (by unfold rowGf; rw [if_pos (by omega)])
theorem rowG_path {m k : Nat} (h : k + 1 = m) : rowG m k = (gP m false).map natsD := by
  rw [gP, grF, List.map_map];refine List.map_congr_left fun i hi => ?_;have := List.mem_range.1 hi;show natsD (rowGf i k) = natsD (sucP m false i);unfold rowGf sucP
  by_cases h2 : i < k
  · rw [if_pos h2, if_pos (by omega)]
  · rw [if_neg h2, if_neg (by omega)]; rfl
theorem rowG_ring {m k : Nat} (h : k + 1 = m) : (rowG m k).set (m - 1) (natsD [0]) = (gP m true).map natsD := by
  rw [gP, grF, List.map_map];refine row_set (fun i hi hne => ?_) ?_
  · show natsD (rowGf i k) = natsD (sucP m true i);unfold rowGf sucP;rw [if_pos (by omega), if_pos (by omega)]
  · show natsD [0] = natsD (sucP m true (m - 1));unfold sucP;rw [if_neg (by omega), if_pos rfl]
theorem cycF_p {m : Nat} (hm : m ≤ 20000) : PCalls Try.prog 14 [.d (grD (gP m false))] (.tup [natsD [], boolD false, intD 0]) := by
  have h := cycle_c (gP m false) (gP_gt hm);refine ⟨h.1, fun F ρ vs h1 h2 h2' h3 h4 h5 => (h.2 F ρ vs h1 h2 h2' h3 h4 h5).mono fun e w' ⟨v, r, H', ρ', e1, ⟨best, out, hC, hr, hH⟩, hrep, hh⟩ => ⟨v, r, H', ρ', e1, ⟨?_, hH⟩, hrep, hh⟩⟩;rw [hr, cycP hC]
  rfl
theorem cycT_p {m : Nat} (hm0 : 0 < m) (hm : m ≤ 20000) : PCalls Try.prog 14 [.d (grD (gP m true))] (.tup [natsD (List.range m), boolD true, intD 0]) := by
  have h := cycle_c (gP m true) (gP_gt hm);refine ⟨h.1, fun F ρ vs h1 h2 h2' h3 h4 h5 => (h.2 F ρ vs h1 h2 h2' h3 h4 h5).mono fun e w' ⟨v, r, H', ρ', e1, ⟨best, out, hC, hr, hH⟩, hrep, hh⟩ => ⟨v, r, H', ρ', e1, ⟨?_, hH⟩, hrep, hh⟩⟩;obtain ⟨h6, h7⟩ := cycT hm0 hm hC;have ho : out = List.range m := ext_nth (by rw [h6, List.length_range]) fun i hi => by rw [h7 i (by omega), nth_range (by omega)]
  have hne : List.range m ≠ [] := fun e => by have := congrArg List.length e; rw [List.length_range] at this; simp at this; omega
  rw [hr, ho, show decide (List.range m ≠ []) = true from decide_eq_true hne]
theorem comP_get {n c : Nat} (hn : n ≤ 20000) (hc : c < n) : ∃ l, ((comC (gP n false)).map natsD)[c]? = some (natsD (c :: l)) := by
  obtain ⟨h1, h2⟩ := comP hn;obtain ⟨l, _, e⟩ := h2 c hc;exact ⟨l, by rw [getg (by omega), e]⟩
set_option maxRecDepth 100000 in
theorem longF_p (a : Nat) (ha : a < 65536) : PCalls Try.prog 6 [.d (u16V a), .d (boolD false)] (boolD true) := by
  refine Zbb Try.func6 rfl rfl Try.ntmps6 rfl rfl rfl fun F hF => (Zag (Zae (goAs rfl rfl (Zaf (Zag (Zag (Zae (Zab.go (Zbu (known_p) rfl rfl) ?_))))))))
  first | refine Zab.go (st_notP rfl rfl) ?_ | refine Zab.go (st_not rfl rfl) ?_
  refine Zaf (Zbr rfl (rfl) (ZaD ?_));refine Zag (Zae (goMv rfl rfl (Zab.go (st_conv rfl Try.underlying44 Try.underlying3 (IntWalk.i64_in _ (by omega)) rfl) (Zab.go (st_rem rfl rfl (by omega) ((show Int.tmod (a : Int) 20000 = ((a % 20000 : Nat) : Int) from rfl)) rfl) (Zab.go (ZaK rfl rfl (IntWalk.i64_in _ (by omega)) rfl) (goAs rfl rfl (Zaf (Zag ?_))))))));have hm20 : 1 + a % 20000 ≤ 20000 := by omega
  have hm0 : 0 < 1 + a % 20000 := by omega
  refine a_as 5 (.d (natD (1 + a % 20000))) rfl (eqv (congrArg intD (by omega))) ?_
  obtain ⟨m, hm⟩ : ∃ m, 1 + a % 20000 = m := ⟨_, rfl⟩
  rw [hm] at hm20 hm0 ⊢;refine Zae (goMv rfl rfl (Zax.go (ZbO 0 sl22 rfl rfl rfl (by omega) zd25 rfl rfl rfl rfl) (goAs rfl rfl ?_)));refine Zaf (Zag (Zag (a_weakRow 0 0 (rowG m 0) rfl (by rw [rowG_len, List.length_replicate]) (nil_rowG m) ⟨one_nil _, one_rowG _ _⟩ rfl (Zae (goAs rfl rfl (Zaf (ZaC (Za5 (α := Nat) (fun k => ⟨148, [(0, .d (u16V a)), (1, .d (boolD false)), (5, (.d (natD m))), (6, (.own 0 0 m)), (7, (.d (natD k)))], [(0, [.rowD 25 1 (rowG m k)])]⟩) (fun k => k + 1 ≤ m) (fun k => m - k) (0) (hm0) (ZaA hF [0] rfl rfl ⟨rfl, rfl, rfl, rfl, rfl, trivial⟩) ?_))))))));intro k hk;refine Zag (Zag (Zae (goMv rfl rfl (Zab.go (ZaK rfl rfl (IntWalk.i64_in _ (by omega)) rfl) (goMv rfl rfl ?_)))))
  first | refine Zab.go (Zba rfl rfl rfl) ?_ | refine Zab.go (ZaX rfl rfl rfl) ?_
  refine Zaf ?_
  first | refine ZaT rfl (fun h26 => ?_) (fun h26 => ?_) | refine ZaF rfl (fun h26 => ?_) (fun h26 => ?_)
  · refine ZaD (Zag (ZaC ?_));have hkm : k < m := by omega
    refine Zae (goMv rfl rfl (goMv rfl rfl (goMv rfl rfl (Zab.go (ZaK rfl rfl (IntWalk.i64_in _ (by omega)) rfl) (o_as 32 (.d (natD (k + 1))) rfl (eqv (congrArg intD (by omega))) (Zax.go (ZaN 21 sl25 rfl rfl rfl rfl rfl rfl rfl rfl) (ZbL (emb := natD) 33 21 [k + 1] rfl rfl rfl rfl rfl rfl rfl ?_)))))))
    first | refine Zab.go (Zam (k) rfl rfl (rfl) (hkm) Try.underlying22 rfl sz25 rfl) ?_ | refine Zab.go (Zal (k) rfl rfl (rfl) (hkm) rfl Try.underlying22 sz25 rfl) ?_
    refine Zax.go (Zbe rfl rfl rfl rfl rfl (by rw [rowG_len]; exact hkm) rowG_set rfl sz25) (Zaf (Zae (goMv rfl rfl (Zab.go (ZaK rfl rfl (IntWalk.i64_in _ (by omega)) rfl) (goAs rfl rfl (Zaf ?_))))));exact ⟨k + 1, by omega, by omega, ZaA hF [0] rfl (rfl) ⟨rfl, rfl, rfl, rfl, rfl, trivial⟩⟩
  · refine ZaL (Zag (Zag ?_));have hke : k + 1 = m := by omega
    refine Zae (goMv rfl rfl (Zaf (Zbr rfl (rfl) (ZaD (Zag ?_)))));rw [rowG_path hke];refine Zbx (emb := natsD) 6 0 (gP m false) rfl rfl rfl (Zbq _ _).symm rfl rfl rfl ?_;have hto := topo_p (gP m false) (gP_gt hm20);rw [ordP_, if_pos (by rw [Zbq, List.length_range])] at hto;obtain ⟨hcl, _⟩ := comP hm20;refine Zae (goMv rfl rfl (Zab.go (Zbu (components_p (gP m false) (gP_gt hm20)) rfl rfl) (goMv rfl rfl ?_)))
    first | refine Zab.go (ZaI rfl rfl rfl) ?_ | refine Zab.go (ZaM rfl rfl rfl) ?_
    first | refine Zab.go (ZaI rfl rfl rfl) ?_ | refine Zab.go (ZaM rfl rfl rfl) ?_
    refine goAs rfl rfl (goAs rfl rfl (Zaf (Zag (Zae (goMv rfl rfl (Zab.go (Zbu (hto) rfl rfl) (goMv rfl rfl ?_)))))))
    first | refine Zab.go (ZaI rfl rfl rfl) ?_ | refine Zab.go (ZaM rfl rfl rfl) ?_
    first | refine Zab.go (ZaI rfl rfl rfl) ?_ | refine Zab.go (ZaM rfl rfl rfl) ?_
    refine goAs rfl rfl (goAs rfl rfl (Zaf (Zag (Zae (goMv rfl rfl (Zab.go (Zbu (cycF_p hm20) rfl rfl) (goMv rfl rfl ?_)))))))
    first | refine Zab.go (ZaI rfl rfl rfl) ?_ | refine Zab.go (ZaM rfl rfl rfl) ?_
    first | refine Zab.go (ZaI rfl rfl rfl) ?_ | refine Zab.go (ZaM rfl rfl rfl) ?_
    first | refine Zab.go (ZaI rfl rfl rfl) ?_ | refine Zab.go (ZaM rfl rfl rfl) ?_
    refine goAs rfl rfl (goAs rfl rfl (goAs rfl rfl (Zaf (Zag (Zag (Zae (goMv rfl rfl ?_)))))))
    first | refine Zab.go (st_neq rfl rfl rfl) ?_ | refine Zab.go (ZbE rfl rfl rfl) ?_ | refine Zab.go (ZbF rfl rfl rfl) ?_ | refine Zab.go (ZbJ Try.underlying26 rfl rfl rfl) ?_ | refine Zab.go (ZbH Try.underlying26 rfl rfl rfl) ?_ | refine Zab.go (st_neqN Try.underlying26 rfl rfl) ?_ | refine Zab.go (ZbI Try.underlying26 rfl rfl rfl) ?_ | refine Zab.go (st_neqFN Try.underlying26 rfl rfl) ?_
    refine goMv rfl rfl (o_setF 59 rfl (decide_eq_false (by decide)) (ZaB rfl rfl rfl (goMv rfl rfl (ZaB rfl rfl rfl ?_))))
    first | refine Zab.go (st_neq rfl rfl rfl) ?_ | refine Zab.go (ZbE rfl rfl rfl) ?_ | refine Zab.go (ZbF rfl rfl rfl) ?_ | refine Zab.go (ZbJ Try.underlying26 rfl rfl rfl) ?_ | refine Zab.go (ZbH Try.underlying26 rfl rfl rfl) ?_ | refine Zab.go (st_neqN Try.underlying26 rfl rfl) ?_ | refine Zab.go (ZbI Try.underlying26 rfl rfl rfl) ?_ | refine Zab.go (st_neqFN Try.underlying26 rfl rfl) ?_
    refine Zab.go (Za8 rfl rfl rfl rfl) (goMv rfl rfl (o_setF 63 rfl (decide_eq_false (by decide)) (ZaB rfl rfl rfl (goMv rfl rfl (ZaB rfl rfl rfl (goMv rfl rfl (ZaB rfl rfl rfl ?_)))))))
    first | refine Zab.go (st_neq rfl rfl rfl) ?_ | refine Zab.go (ZbE rfl rfl rfl) ?_ | refine Zab.go (ZbF rfl rfl rfl) ?_ | refine Zab.go (ZbJ Try.underlying4 rfl rfl rfl) ?_ | refine Zab.go (ZbH Try.underlying4 rfl rfl rfl) ?_ | refine Zab.go (st_neqN Try.underlying4 rfl rfl) ?_ | refine Zab.go (ZbI Try.underlying4 rfl rfl rfl) ?_ | refine Zab.go (st_neqFN Try.underlying4 rfl rfl) ?_
    refine Zab.go (Za8 rfl rfl rfl rfl) (Zaf (Zbr rfl (decide_eq_false (by decide)) ?_));refine ZaD (Zag (Zag (Zae (goMv rfl rfl (Zaf (Zbr rfl (rfl) (ZaD (Zag ?_))))))));obtain ⟨l, hcg⟩ := comP_get hm20 (show m - 1 < m by omega);refine Zae (goMv rfl rfl (Zab.go (ZaE rfl ((List.length_map ..).trans hcl) Try.underlying22 rfl) (goMv rfl rfl ?_)))
    first | refine Zab.go (Zbf rfl rfl rfl) ?_ | refine Zab.go (ZaU rfl rfl rfl) ?_ | refine Zab.go (Za0 rfl rfl rfl) ?_ | refine Zab.go (Za4 Try.underlying3 rfl rfl rfl) ?_ | refine Zab.go (Za1 Try.underlying3 rfl rfl rfl) ?_ | refine Zab.go (Za2 Try.underlying3 rfl rfl) ?_ | refine Zab.go (Za3 Try.underlying3 rfl rfl rfl) ?_ | refine Zab.go (ZaV Try.underlying3 rfl rfl) ?_
    refine goMv rfl rfl ?_;refine o_setT 110 rfl (decide_eq_true rfl) (ZaB rfl rfl rfl (goMv rfl rfl (ZaB rfl rfl rfl (goMv rfl rfl (ZaB rfl rfl rfl (Zab.go (Za9 rfl rfl (IntWalk.i64_in _ (by omega)) rfl) (o_as 113 (.d (natD (m - 1))) rfl (eqv (congrArg intD (by omega))) (ZaB rfl rfl rfl ?_))))))))
    first | refine Zab.go (Zam (m - 1) rfl rfl (rfl) (hcg) Try.underlying22 rfl sz25 rfl) ?_ | refine Zab.go (Zal (m - 1) rfl rfl (rfl) (hcg) rfl Try.underlying22 sz25 rfl) ?_
    refine ZaB rfl rfl rfl ?_
    first | refine Zab.go (Zai rfl rfl on25 rfl) ?_ | refine Zab.go (Zak rfl rfl rfl on25 rfl) ?_ | refine Zab.go (Zaj rfl rfl (rfl) rfl on25 rfl) ?_
    refine ZaB rfl rfl rfl ?_
    first | refine Zab.go (Zam (0) rfl rfl (rfl) (rfl) Try.underlying25 rfl sz3 rfl) ?_ | refine Zab.go (Zal (0) rfl rfl (rfl) (rfl) rfl Try.underlying25 sz3 rfl) ?_
    refine ZaB rfl rfl rfl ?_
    first | refine Zab.go (Zai rfl rfl on3 rfl) ?_ | refine Zab.go (Zak rfl rfl rfl on3 rfl) ?_ | refine Zab.go (Zaj rfl rfl (rfl) rfl on3 rfl) ?_
    refine ZaB rfl rfl rfl (goMv rfl rfl (ZaB rfl rfl rfl (Zab.go (Za9 rfl rfl (IntWalk.i64_in _ (by omega)) rfl) (o_as 119 (.d (natD (m - 1))) rfl (eqv (congrArg intD (by omega))) (ZaB rfl rfl rfl ?_)))))
    first | refine Zab.go (Zbf rfl rfl rfl) ?_ | refine Zab.go (ZaU rfl rfl rfl) ?_ | refine Zab.go (Za0 rfl rfl rfl) ?_ | refine Zab.go (Za4 Try.underlying3 rfl rfl rfl) ?_ | refine Zab.go (Za1 Try.underlying3 rfl rfl rfl) ?_ | refine Zab.go (Za2 Try.underlying3 rfl rfl) ?_ | refine Zab.go (Za3 Try.underlying3 rfl rfl rfl) ?_ | refine Zab.go (ZaV Try.underlying3 rfl rfl) ?_
    refine Zab.go (ZaZ rfl rfl rfl rfl) (goMv rfl rfl (o_setT 122 rfl (decide_eq_true rfl) (ZaB rfl rfl rfl (goMv rfl rfl (ZaB rfl rfl rfl ?_)))))
    first | refine Zab.go (Zbf rfl rfl rfl) ?_ | refine Zab.go (ZaU rfl rfl rfl) ?_ | refine Zab.go (Za0 rfl rfl rfl) ?_ | refine Zab.go (Za4 Try.underlying26 rfl rfl rfl) ?_ | refine Zab.go (Za1 Try.underlying26 rfl rfl rfl) ?_ | refine Zab.go (Za2 Try.underlying26 rfl rfl) ?_ | refine Zab.go (Za3 Try.underlying26 rfl rfl rfl) ?_ | refine Zab.go (ZaV Try.underlying26 rfl rfl) ?_
    refine Zab.go (ZaZ rfl rfl rfl rfl) ?_;refine goMv rfl rfl (o_setT 126 rfl (decide_eq_true (by decide)) (ZaB rfl rfl rfl (goMv rfl rfl (ZaB rfl rfl rfl (Zab.go (ZaE rfl ((List.length_map ..).trans (List.length_range ..)) Try.underlying25 rfl) (ZaB rfl rfl rfl (goMv rfl rfl (ZaB rfl rfl rfl ?_))))))))
    first | refine Zab.go (Zbf rfl rfl rfl) ?_ | refine Zab.go (ZaU rfl rfl rfl) ?_ | refine Zab.go (Za0 rfl rfl rfl) ?_ | refine Zab.go (Za4 Try.underlying3 rfl rfl rfl) ?_ | refine Zab.go (Za1 Try.underlying3 rfl rfl rfl) ?_ | refine Zab.go (Za2 Try.underlying3 rfl rfl) ?_ | refine Zab.go (Za3 Try.underlying3 rfl rfl rfl) ?_ | refine Zab.go (ZaV Try.underlying3 rfl rfl) ?_
    refine Zab.go (ZaZ rfl rfl rfl rfl) (goMv rfl rfl (o_setT 132 rfl (decide_eq_true rfl) (ZaB rfl rfl rfl (goMv rfl rfl (ZaB rfl rfl rfl ?_)))))
    first | refine Zab.go (Zam (0) rfl rfl (rfl) (getn (by rw [List.length_range]; exact hm0)) Try.underlying25 rfl sz3 rfl) ?_ | refine Zab.go (Zal (0) rfl rfl (rfl) (getn (by rw [List.length_range]; exact hm0)) rfl Try.underlying25 sz3 rfl) ?_
    refine ZaB rfl rfl rfl ?_
    first | refine Zab.go (Zai rfl rfl on3 rfl) ?_ | refine Zab.go (Zak rfl rfl rfl on3 rfl) ?_ | refine Zab.go (Zaj rfl rfl (rfl) rfl on3 rfl) ?_
    refine ZaB rfl rfl rfl ?_
    first | refine Zab.go (Zbf rfl rfl rfl) ?_ | refine Zab.go (ZaU rfl rfl rfl) ?_ | refine Zab.go (Za0 rfl rfl rfl) ?_ | refine Zab.go (Za4 Try.underlying3 rfl rfl rfl) ?_ | refine Zab.go (Za1 Try.underlying3 rfl rfl rfl) ?_ | refine Zab.go (Za2 Try.underlying3 rfl rfl) ?_ | refine Zab.go (Za3 Try.underlying3 rfl rfl rfl) ?_ | refine Zab.go (ZaV Try.underlying3 rfl rfl) ?_
    refine Zab.go (ZaZ rfl rfl rfl rfl) (goMv rfl rfl ?_);refine o_setT 138 rfl (decide_eq_true (by rw [nth_range hm0]; rfl)) (ZaB rfl rfl rfl (goMv rfl rfl (ZaB rfl rfl rfl (goMv rfl rfl (ZaB rfl rfl rfl (Zab.go (Za9 rfl rfl (IntWalk.i64_in _ (by omega)) rfl) (o_as 141 (.d (natD (m - 1))) rfl (eqv (congrArg intD (by omega))) (ZaB rfl rfl rfl ?_))))))))
    first | refine Zab.go (Zam (m - 1) rfl rfl (rfl) (getn (by rw [List.length_range]; omega)) Try.underlying25 rfl sz3 rfl) ?_ | refine Zab.go (Zal (m - 1) rfl rfl (rfl) (getn (by rw [List.length_range]; omega)) rfl Try.underlying25 sz3 rfl) ?_
    refine ZaB rfl rfl rfl ?_
    first | refine Zab.go (Zai rfl rfl on3 rfl) ?_ | refine Zab.go (Zak rfl rfl rfl on3 rfl) ?_ | refine Zab.go (Zaj rfl rfl (rfl) rfl on3 rfl) ?_
    refine ZaB rfl rfl rfl (goMv rfl rfl (ZaB rfl rfl rfl (Zab.go (Za9 rfl rfl (IntWalk.i64_in _ (by omega)) rfl) (o_as 145 (.d (natD (m - 1))) rfl (eqv (congrArg intD (by omega))) (ZaB rfl rfl rfl ?_)))))
    first | refine Zab.go (Zbf rfl rfl rfl) ?_ | refine Zab.go (ZaU rfl rfl rfl) ?_ | refine Zab.go (Za0 rfl rfl rfl) ?_ | refine Zab.go (Za4 Try.underlying3 rfl rfl rfl) ?_ | refine Zab.go (Za1 Try.underlying3 rfl rfl rfl) ?_ | refine Zab.go (Za2 Try.underlying3 rfl rfl) ?_ | refine Zab.go (Za3 Try.underlying3 rfl rfl rfl) ?_ | refine Zab.go (ZaV Try.underlying3 rfl rfl) ?_
    refine Zab.go (ZaZ rfl rfl rfl rfl) (goAs rfl rfl (Zaf (Zbj ?_)));exact ⟨_, [], [], ZaR rfl, rfl, rfl, by rw [nth_range (by omega), decide_eq_true rfl], rfl⟩
end Go.Proofs.Ytgdppeobgefogaa
