/- Layer 30: the reference: what a room lacks, what blocks an item. -/
import Derived.Test.YtneihdahboilnaaGreatMg26
namespace Go.Proofs.YtneihdahboilnaaGreat
open Go.RowKit

def overL (its : List Itm) (x : Roo) (l : List Int) : Int := max x.n 0 + ((its.filter fun i => decide (i.id ∈ l)).map fun i => dltE i x.r).sum
theorem overL_snoc {its : List Itm} {k : Nat} (hk : k < its.length) (x : Roo) (l : List Int) : overL (its.take (k + 1)) x l = overL (its.take k) x l + if its[k].id ∈ l then dltE its[k] x.r else 0 := by
  unfold overL;rw [ZcC hk]
  by_cases h : its[k].id ∈ l
  · rw [if_pos (by simpa using h), if_pos h, List.map_append, List.sum_append]; simp; omega
  · rw [if_neg (by simpa using h), if_neg h, List.append_nil]; omega
theorem dltE_bnd (i : Itm) (r : Rsc) : -1000000000000000 ≤ dltE i r ∧ dltE i r ≤ 1000000000000000 := by
  unfold dltE
  split
  · rename_i h
    have := bnd_sum h.1 r
    simpa [Mx] using this
  · omega
theorem overL_bnd (its : List Itm) (x : Roo) (l : List Int) : max x.n 0 - its.length * 1000000000000000 ≤ overL its x l ∧ overL its x l ≤ max x.n 0 + its.length * 1000000000000000 := by
  unfold overL
  induction its with
  | nil => simp
  | cons i its ih =>
    have h1 := dltE_bnd i x.r;rw [List.filter_cons];simp only [List.length_cons]
    split
    · simp only [List.map_cons, List.sum_cons]; omega
    · omega
set_option maxRecDepth 100000 in
theorem over_n (p : Prb) (x : Roo) (l : List Int) (hp : p.it.length ≤ 30) (hx : -100000000000000000 ≤ x.n ∧ x.n ≤ 100000000000000000) (hl : l.length ≤ 1000) (hi : ∀ i ∈ p.it, FewI i) : PCalls Tryz.prog 34 [.d (prbD p), .d (rooD x), .d (.sl none (l.map intD))] (intD (max 0 (-(overL p.it x l)))) := by
  have hmx : (if 0 > x.n then 0 else x.n) = max x.n 0 := by rw [Int.max_def]; split <;> split <;> omega
  refine ZaI Tryz.func34 rfl rfl Tryz.ntmps34 rfl rfl rfl fun F hF => (Zag (Zab (Zam.go (ZaS 1 rfl rfl rfl rfl rfl rfl rfl) (Zam.go (ZaS 2 rfl rfl rfl rfl rfl rfl rfl) (Zaa.go (Zad rfl rfl) (Zaf ?_))))));refine Zag (Zab (Zaa.go (Zai rfl ZbO rfl rfl rfl) (Zaa.go (Zaj rfl rfl rfl on2 rfl) (Zaa.go (st_max rfl rfl (rfl) rfl) (Zaa.go (Zad rfl rfl) (Zaf (Zag (Zag ?_))))))));have h00 : max x.n 0 = overL (p.it.take 0) x l := by unfold overL; simp
  rw [hmx, h00];refine Zab (Zaa.go (Zad rfl rfl) (Zaf (Zat (ZaO (α := Nat) (fun k => ⟨40, [(2, .d (.sl none (l.map intD))), (3, (.ptr 1 0 0)), (4, (.ptr 2 0 0)), (7, (.d (intD (overL (p.it.take k) x l)))), (8, (.d (intD (k : Int))))], [(1, [.blk 25 [.d (.sl none (p.ro.map rooD)), .d (.sl none (p.it.map itmD))]]), (2, [.blk 67 [.d (intD x.r.k), .d (strD x.r.acc.o), .d (intD x.r.acc.k), .d (strD x.r.acc.a), .d (strD x.r.f), .d (strD x.r.t), .d (intD x.n)]])]⟩) (fun k => k ≤ p.it.length) (fun k => p.it.length - k) (0) (Nat.zero_le _) (Zaw hF [1, 2] rfl rfl ⟨rfl, rfl, rfl, rfl, rfl, trivial⟩) ?_))));rintro k hk0;refine Zag ?_;refine Zag (Zab (Zaa.go (Zac rfl rfl) (Zaa.go (Zai rfl ZaU rfl rfl rfl) (Zaa.go (Zaj rfl rfl rfl on23 rfl) (Zaa.go (ZaD rfl Tryz.underlying23 rfl) (Zaa.go (ZaM rfl rfl rfl) (Zaf (ZaK rfl (fun h16 => ?_) (fun h16 => ?_)))))))))
  · have hk1 : k < p.it.length := ZaP h16;refine Zas (Zag (Zat (Zag ?_)));have hfi := hi _ (List.getElem_mem hk1);have hsn := overL_snoc hk1 x l;have hob := overL_bnd (p.it.take k) x l;rw [List.length_take] at hob;have hdb := dltE_bnd p.it[k] x.r;refine Zab (Zaa.go (Zac rfl rfl) ?_);refine Zaa.go (Zai rfl ZaU rfl rfl rfl) (Zaa.go (Zaj rfl rfl rfl on23 rfl) (Zaa.go (Zac rfl rfl) (Zaa.go (Zay (k) rfl rfl (rfl) (getm hk1) Tryz.underlying23 rfl sz64 rfl) (Zaa.go (Zau rfl Zb1 rfl rfl rfl) (Zaa.go (Zaz rfl rfl on3 rfl) (Zaa.go (Zan (has30_p l p.it[k].id (by omega)) rfl rfl) (Zaf (ZaK rfl (fun h26 => ?_) (fun h26 => ?_)))))))))
    · refine Za2 [[], [], [1], [], [1, 2, 3], [1, 2, 3, 4], [], [6], [1, 2, 3, 4, 5, 6, 7], [0, 1, 2, 3, 4, 5, 6, 7, 8], [0, 1, 2, 3, 4, 5, 6, 7, 8, 9]] mixed rfl (dws (Zah [7] [] rfl rfl (fun _ => Zae (Zac rfl rfl)) (Zah [3] [] rfl rfl (fun _ => Zae (Zai rfl ZaU rfl rfl rfl)) (Zah [28] [1] rfl rfl (fun _ => Zae (Zaj rfl rfl rfl on23 rfl)) (Zah [8] [] rfl rfl (fun _ => Zae (Zac rfl rfl)) ?_)))));refine Zah [29, 30] [] rfl rfl (fun _ => Zae (Zay (k) rfl rfl (rfl) (getm hk1) Tryz.underlying23 rfl sz64 rfl)) (Zah [31] [] rfl rfl (fun _ => Zae (ZaE rfl rfl rw64 rfl)) (Zah [4] [] rfl rfl (fun _ => Zae (Zai rfl Zbs rfl rfl rfl)) (Zah [33] [2] rfl rfl (fun _ => Zae (Zap rfl rfl rw56 rfl rfl rfl)) (Zah [32, 34] [] rfl rfl (fun _ => Zae (Zan (refdelta_p p.it[k] x.r (by have h := hfi.1; omega) (by have h := hfi.2.1; omega) (by have h := hfi.2.2; omega)) rfl rfl)) (dwc 9 rfl rfl rfl (dw1 10 rfl rfl (Zaa.go (ZaG rfl rfl (IntWalk.i64_in _ (by omega)) rfl) (Zaf ⟨rfl, ?_⟩))))))));refine dw1 11 rfl rfl (Zaa.go (Zad rfl rfl) (Zaf ⟨rfl, ?_⟩));refine dwe ?_
      first | rw [if_pos (by simpa using h26)] at hsn | rw [if_neg (by simpa using h26), Int.add_zero] at hsn
      rw [← hsn];refine Zab (Zaa.go (Zac rfl rfl) (Zaa.go (ZaG rfl rfl (wrapS (k + 1) (by omega)) rfl) (Zaa.go (Zad rfl rfl) (Zaf ?_))));exact ⟨k + 1, (by show k + 1 ≤ _; omega), by show p.it.length - (k + 1) < p.it.length - k; omega, Zaw hF [1, 2] rfl (rfl) ⟨rfl, rfl, rfl, rfl, rfl, trivial⟩⟩
    · refine Zas ?_
      first | rw [if_pos (by simpa using h26)] at hsn | rw [if_neg (by simpa using h26), Int.add_zero] at hsn
      rw [← hsn];refine Zab (Zaa.go (Zac rfl rfl) (Zaa.go (ZaG rfl rfl (wrapS (k + 1) (by omega)) rfl) (Zaa.go (Zad rfl rfl) (Zaf ?_))));exact ⟨k + 1, (by show k + 1 ≤ _; omega), by show p.it.length - (k + 1) < p.it.length - k; omega, Zaw hF [1, 2] rfl (rfl) ⟨rfl, rfl, rfl, rfl, rfl, trivial⟩⟩
  · refine ZaQ (Zag ?_);have hob := overL_bnd p.it x l;rw [List.take_of_length_le (by have h := h16; omega)];refine Zab (Zaa.go (Zac rfl rfl) (Zaa.go (st_neg rfl (IntWalk.i64_in _ (by omega)) rfl) (Zaa.go (st_max rfl rfl (rfl) rfl) (Zaa.go (Zad rfl rfl) (Zaf (Zav ?_))))));exact ⟨_, [], [], Zaq rfl, rfl, rfl, by rw [show (max 0 (-(overL p.it x l)) : Int) = if 0 - overL p.it x l > 0 then 0 - overL p.it x l else 0 by rw [Int.max_def]; split <;> split <;> omega], rfl⟩
theorem over_p (p : Prb) (x : Roo) (l : List Int) (hp : p.it.length ≤ 30) (hx : -4000000000000000 ≤ x.n ∧ x.n ≤ 4000000000000000) (hl : l.length ≤ 1000) (hi : ∀ i ∈ p.it, FewI i) : PCalls Tryz.prog 34 [.d (prbD p), .d (rooD x), .d (.sl none (l.map intD))] (intD (max 0 (-(overL p.it x l)))) := over_n p x l hp (by omega) hl hi
def blkR (its : List Itm) (l : List Int) (id : Int) (x : Roo) : Option Exc := if id ∈ qIds its x.r then (((qIds its x.r).takeWhile fun a => decide (a ≠ id)).find? fun a => decide (a ∉ l)).map fun a => ⟨id, 1, x.r, a⟩ else none
def blockR (p : Prb) (l : List Int) (id : Int) : Option Exc := match (rosS p).findSome? (blkR (sortO p.it) l id) with
  | some e => some e
  | none => ((itmOf p id).af.find? fun a => decide (a ∉ l)).map fun a => ⟨id, 2, rscZ, a⟩
theorem tw_take {α : Type} {p : α → Bool} : ∀ {l : List α} {m : Nat} (hm : m < l.length), (∀ a ∈ l.take m, p a = true) → p l[m] = false → l.takeWhile p = l.take m
  | a :: l, 0, _, _, h => by simp at h; simp [h]
  | a :: l, m + 1, hm, h0, h => by
    have h1 : p a = true := h0 a (by simp);have ih := tw_take (l := l) (m := m) (by simpa using hm) (fun x hx => h0 x (by simp [hx])) (by simpa using h);rw [List.takeWhile_cons, h1, List.take_succ_cons, ← ih]; rfl
end Go.Proofs.YtneihdahboilnaaGreat
/- Layer 30: the reference: the next exclusion. -/
namespace Go.Proofs.YtneihdahboilnaaGreat
open Go.RowKit

def overX (its its0 : List Itm) (l : List Int) (x : Roo) : Option Exc := if overL its0 x l < 0 then ((qIds its x.r).reverse.find? fun a => decide (a ∈ l)).map fun a => ⟨a, 0, x.r, -1⟩ else none
def nextR (p : Prb) (l : List Int) : Option Exc := match l.findSome? (blockR p l) with
  | some e => some e
  | none => (rosS p).findSome? (overX (sortO p.it) p.it l)
end Go.Proofs.YtneihdahboilnaaGreat
/- Layer 30: the reference's removal procedure. -/
namespace Go.Proofs.YtneihdahboilnaaGreat
open Go.RowKit

theorem blockR_id {p : Prb} {l : List Int} {id : Int} {e : Exc} (h : blockR p l id = some e) : e.id = id := by
  unfold blockR at h
  split at h
  · rename_i e' h1
    injection h with h; subst h
    obtain ⟨x, _, h2⟩ := List.exists_of_findSome?_eq_some h1;unfold blkR at h2
    split at h2
    · obtain ⟨a, _, rfl⟩ := Option.map_eq_some_iff.1 h2; rfl
    · cases h2
  · obtain ⟨a, _, rfl⟩ := Option.map_eq_some_iff.1 h; rfl
end Go.Proofs.YtneihdahboilnaaGreat
/- Layer 30: the removal procedure and the reference say the same. Plain laws. -/
namespace Go.Proofs.YtneihdahboilnaaGreat
open Go.RowKit

theorem find_congr {α : Type} {p q : α → Bool} : ∀ {l : List α}, (∀ x ∈ l, p x = q x) → l.find? p = l.find? q
  | [], _ => rfl
  | a :: l, h => by
    rw [List.find?_cons, List.find?_cons, h a (List.mem_cons_self ..), find_congr fun x hx => h x (List.mem_cons_of_mem _ hx)]
theorem fs_congr {α β : Type} {f g : α → Option β} : ∀ {l : List α}, (∀ x ∈ l, f x = g x) → l.findSome? f = l.findSome? g
  | [], _ => rfl
  | a :: l, h => by
    rw [List.findSome?_cons, List.findSome?_cons, h a (List.mem_cons_self ..), fs_congr fun x hx => h x (List.mem_cons_of_mem _ hx)]
theorem fs_filter {α β : Type} {f : α → Option β} {p : α → Bool} : ∀ {l : List α}, (∀ x ∈ l, p x = false → f x = none) → (l.filter p).findSome? f = l.findSome? f
  | [], _ => rfl
  | a :: l, h => by
    have ih := fs_filter (f := f) (p := p) (l := l) fun x hx => h x (List.mem_cons_of_mem _ hx);rw [List.filter_cons]
    cases hp : p a with
    | true => rw [if_pos rfl, List.findSome?_cons, List.findSome?_cons, ih]
    | false => rw [if_neg (by simp), ih, List.findSome?_cons, h a (List.mem_cons_self ..) hp]
theorem find_map_fs {α β γ : Type} {g : α → β} {p : β → Bool} {h : β → γ} : ∀ {l : List α}, ((l.map g).find? p).map h = l.findSome? fun x => if p (g x) = true then some (h (g x)) else none
  | [] => rfl
  | a :: l => by
    rw [List.map_cons, List.find?_cons, List.findSome?_cons]
    cases hp : p (g a) with
    | true => rw [if_pos rfl]; rfl
    | false => rw [if_neg (by simp), ← find_map_fs (l := l)]
theorem amt_dlt {x : Itm} (h : checkE x = 0) {r : Rsc} (hr : validE r = 0) : amt (dltS x) r = dltE x r := by
  have h1 : dltS x = dltC (ctr x) := if_pos h;have h2 : dltE x r = ctrSum (ctr x) r := if_pos ⟨h, hr⟩;rw [h1, h2]
  by_cases h0 : ctrSum (ctr x) r = 0
  · rw [h0];refine mget_not fun hm => ?_;obtain ⟨d, hd, e⟩ := List.mem_map.1 hm;obtain ⟨h3, h4⟩ := (dltC_mem _ _).1 hd;have h5 := (sumL_mem (ctr x) d.1 d.2).1 h3;rw [e, h0] at h5;exact h4 h5.2
  · refine ZcA (by rw [← h1]; exact ZcQ x) ((dltC_mem _ _).2 ⟨(sumL_mem _ _ _).2 ⟨?_, rfl⟩, h0⟩)
    by_cases hm : r ∈ (ctr x).map Prod.fst
    · exact hm
    · exact absurd (ctrSum_none hm) h0
theorem rooms_valid30 {l : List Roo} (h : roomsE l = 0) : ∀ x ∈ l, validE x.r = 0 := fun x hx => by
  have h0 := ZbG.1 h;obtain ⟨j, hj, rfl⟩ := List.getElem_of_mem hx;have := h0 j (List.mem_range.2 hj);unfold rErr at this;rw [ZaT roo0 hj] at this
  split at this
  · contradiction
  · rename_i hv
    exact Classical.byContradiction fun h => hv h
theorem items_valid30 {l : List Itm} (h : itemsE l = 0) : ∀ x ∈ l, checkE x = 0 := fun x hx => by
  have h0 := ZbG.1 h;obtain ⟨j, hj, rfl⟩ := List.getElem_of_mem hx;have := h0 j (List.mem_range.2 hj);unfold iErr at this;rw [ZaT itm0 hj] at this
  split at this
  · contradiction
  · rename_i hv
    exact Classical.byContradiction fun h => hv h
theorem q_ids {its : List Itm} (hv : ∀ x ∈ its, checkE x = 0) {r : Rsc} (hr : validE r = 0) : qIds its r = (negQ (its.map dltS) r).map fun i => (its.getD i itm0).id := by
  unfold qIds negQ
  have e : its = (List.range its.length).map fun i => its.getD i itm0 := by
    apply List.ext_getElem (by simp)
    intro i h1 h2;simp only [List.getElem_map, List.getElem_range];rw [ZaT itm0 h1]
  conv => lhs; rw [e]
  rw [List.filter_map, List.map_map, List.length_map]
  congr 1
  refine List.filter_congr fun i hi => ?_;have hi' := List.mem_range.1 hi;show decide (dltE (its.getD i itm0) r < 0) = _;rw [ZaT [] (by simpa using hi'), List.getElem_map, ZaT itm0 hi', amt_dlt (hv _ (List.getElem_mem hi')) hr]
theorem on_mem {its : List Itm} (hn : (its.map Itm.id).Nodup) (on : Nat → Bool) {i : Nat} (hi : i < its.length) : (its.getD i itm0).id ∈ onIds its on its.length ↔ on i = true := by
  unfold onIds;rw [List.mem_map]
  constructor
  · rintro ⟨j, hj, e⟩;obtain ⟨h1, h2⟩ := List.mem_filter.1 hj;have hj' := List.mem_range.1 h1;rw [ZaT itm0 hi, ZaT itm0 hj'] at e
    have : j = i := by
      have h3 : (its.map Itm.id)[j]'(by simpa using hj') = (its.map Itm.id)[i]'(by simpa using hi) := by
        rw [List.getElem_map, List.getElem_map]; exact e
      exact (List.getElem_inj hn).1 h3
    rw [← this]; exact h2
  · intro h;exact ⟨i, List.mem_filter.2 ⟨List.mem_range.2 hi, h⟩, rfl⟩
end Go.Proofs.YtneihdahboilnaaGreat
/- Layer 30: the next exclusion of the network is the reference's. Plain laws. -/
namespace Go.Proofs.YtneihdahboilnaaGreat
open Go.RowKit

theorem psum {l m : List Int} (h : l.Perm m) : l.sum = m.sum := by
  induction h with
  | nil => rfl
  | cons x _ ih => rw [List.sum_cons, List.sum_cons, ih]
  | swap x y l => simp only [List.sum_cons]; omega
  | trans _ _ h1 h2 => rw [h1, h2]
theorem sum_flt {α : Type} {p : α → Bool} {f : α → Int} : ∀ {l : List α}, ((l.filter p).map f).sum = (l.map fun i => if p i = true then f i else 0).sum
  | [] => rfl
  | a :: l => by
    rw [List.filter_cons, List.map_cons, List.sum_cons, ← sum_flt (l := l)]
    cases hp : p a with
    | true => rw [if_pos rfl, if_pos rfl, List.map_cons, List.sum_cons]
    | false => rw [if_neg (by simp), if_neg (by simp), Int.zero_add]
theorem S_getN {ros : List Roo} {its : List Itm} {on : Nat → Bool} {i : Nat} (h : i < its.length) : (netS ros its on).nd.getD i nd0 = ndS (ros.map Roo.r) its on i := by
  show ((List.range its.length).map _).getD i nd0 = _;rw [ZaT nd0 (by simpa using h), List.getElem_map, List.getElem_range]
theorem negQ_lt {ds : List (List (Rsc × Int))} {r : Rsc} {i : Nat} (h : i ∈ negQ ds r) : i < ds.length := List.mem_range.1 (List.mem_filter.1 h).1
theorem its_range (its : List Itm) : its = (List.range its.length).map fun i => its.getD i itm0 := by
  apply List.ext_getElem (by simp)
  intro i h1 h2;simp only [List.getElem_map, List.getElem_range];rw [ZaT itm0 h1]
structure PV (p : Prb) (ros : List Roo) (its : List Itm) : Prop where
  e : prbE p = 0
  f : FewP p
  s : SmO ros its
  hr : rosS p = ros
  hi : sortO p.it = its
  v : ∀ x ∈ its, checkE x = 0
  w : ∀ x ∈ ros, validE x.r = 0
  up : ros.Pairwise fun a b => cmpR a.r b.r < 0
theorem pv_of {p : Prb} (hE : prbE p = 0) (hf : FewP p) : PV p (rosS p) (sortO p.it) := by
  have h1 : ordP p = sortO p.it := if_pos hE;have hs := sml_P hf hE;rw [h1] at hs;refine ⟨hE, hf, hs, rfl, rfl, fun x hx => items_valid30 (Zbn hE).2.1 x ((Zbe p.it).mem_iff.1 hx), fun x hx => rooms_valid30 (Zbn hE).1 x ((ZcE p).mem_iff.1 hx), ?_⟩;have hn := hs.r;rw [List.Nodup, List.pairwise_map] at hn;refine ((rosS_sorted p).and hn).imp fun {a b} ⟨g1, g2⟩ => ?_;have h1 := Zce.anti a.r b.r;have h2 : cmpR a.r b.r ≠ 0 := fun e => g2 (cmpR_zero.1 e);omega
theorem over_sum {p : Prb} {ros : List Roo} {its : List Itm} (h : PV p ros its) (on : Nat → Bool) {x : Roo} (hx : x ∈ ros) : overL p.it x (onIds its on its.length) = max x.n 0 + sumS (its.map dltS) on x.r := by
  unfold overL
  congr 1
  have hp : p.it.Perm its := by rw [← h.hi]; exact (Zbe p.it).symm
  rw [psum ((hp.filter _).map _)]
  obtain ⟨l, hl⟩ : ∃ l, onIds its on its.length = l := ⟨_, rfl⟩
  rw [hl]
  have e : ((its.filter fun i => decide (i.id ∈ l)).map fun i => dltE i x.r).sum = ((List.range its.length).map fun i => if decide ((its.getD i itm0).id ∈ l) = true then dltE (its.getD i itm0) x.r else 0).sum := by
    conv => lhs; rw [its_range its]
    rw [List.filter_map, List.map_map, sum_flt]; rfl
  have hlen : (its.map dltS).length = its.length := by simp
  rw [e];unfold sumS;rw [hlen]
  congr 1
  refine List.map_congr_left fun i hi => ?_;have hi' := List.mem_range.1 hi;have hon := on_mem h.s.i on hi';rw [hl] at hon;have hv := amt_dlt (h.v (its.getD i itm0) (by rw [ZaT itm0 hi']; exact List.getElem_mem hi')) (h.w x hx);have hg : (its.map dltS).getD i [] = dltS (its.getD i itm0) := by rw [ZaT [] (by simpa using hi'), ZaT itm0 hi', List.getElem_map]
  rw [hg, hv]
  by_cases ho : on i = true
  · rw [if_pos ho, if_pos (decide_eq_true (hon.2 ho))]
  · rw [if_neg ho, if_neg (by simpa using fun h => ho (hon.1 h))]
theorem over_eq {p : Prb} {ros : List Roo} {its : List Itm} (h : PV p ros its) (on : Nat → Bool) {x : Roo} (hx : x ∈ ros) : overX its p.it (onIds its on its.length) x = poX (netS ros its on) (poS (its.map dltS) on x) := by
  unfold overX poX;rw [over_sum h on hx]
  have hov : (ovP (poS (its.map dltS) on x) (poS (its.map dltS) on x).sum = true) ↔ max x.n 0 + sumS (its.map dltS) on x.r < 0 := by
    unfold ovP aftP poS;rw [decide_eq_true_eq];dsimp only;have : (0 : Int) ≤ max x.n 0 := Int.le_max_right _ _;omega
  by_cases hc : max x.n 0 + sumS (its.map dltS) on x.r < 0
  · rw [if_pos hc, if_pos (hov.2 hc), q_ids h.v (h.w x hx), ← List.map_reverse, List.find?_map];show Option.map _ (Option.map _ _) = Option.map _ ((negQ (its.map dltS) x.r).reverse.find? _)
    have e : (negQ (its.map dltS) x.r).reverse.find? ((fun a => decide (a ∈ onIds its on its.length)) ∘ fun i => (its.getD i itm0).id) = (negQ (its.map dltS) x.r).reverse.find? (onN (netS ros its on)) := find_congr fun i hi => by
      have hl := negQ_lt (List.mem_reverse.1 hi);rw [List.length_map] at hl;show decide ((its.getD i itm0).id ∈ _) = onN _ i;unfold onN;rw [S_getN hl];show _ = on i;have := on_mem h.s.i on hl
      cases ho : on i with
      | true => exact decide_eq_true (this.2 ho)
      | false => exact decide_eq_false fun h => by rw [this.1 h] at ho; cases ho
    rw [e]
    cases hf : (negQ (its.map dltS) x.r).reverse.find? (onN (netS ros its on)) with
    | none => rfl
    | some i =>
      have hl := negQ_lt (List.mem_reverse.1 (List.mem_of_find?_eq_some hf));rw [List.length_map] at hl;show some _ = some _
      congr 1
      have hg : (netS ros its on).nd.getD i nd0 = ndS (ros.map Roo.r) its on i := S_getN hl;show Exc.mk (its.getD i itm0).id 0 x.r (-1) = Exc.mk ((netS ros its on).nd.getD i nd0).it.id 0 x.r (-1);rw [hg]; rfl
  · rw [if_neg hc, if_neg fun h => hc (hov.1 h)]
end Go.Proofs.YtneihdahboilnaaGreat
/- Layer 30: what blocks an item, in two words. Plain laws. -/
namespace Go.Proofs.YtneihdahboilnaaGreat
open Go.RowKit

theorem find_idx {α : Type} (p : α → Bool) : ∀ (A : List α), A.find? p = A[A.findIdx p]?
  | [] => rfl
  | a :: A => by
    rw [List.find?_cons, List.findIdx_cons]
    cases hp : p a with
    | true => rfl
    | false => rw [find_idx p A]; rfl
theorem dlt_ris (X : Itm) : (dltS X).Pairwise fun a b => cmpR a.1 b.1 < 0 := by
  unfold dltS
  split
  · exact dltC_ris (ctr X)
  · exact List.Pairwise.nil
theorem pl_eq {p : Prb} {ros : List Roo} {its : List Itm} (h : PV p ros its) (ds : List (List (Rsc × Int))) (X : Itm) : plK (ros.map Roo.r) ds (dltS X) = (ros.filter fun x => decide (amt (dltS X) x.r < 0)).map fun x => ((ros.map Roo.r).idxOf x.r, (negQ ds x.r).length) := by
  have key : ((dltS X).filter fun d => decide (d.1 ∈ ros.map Roo.r) && decide (d.2 < 0)).map Prod.fst = (ros.filter fun x => decide (amt (dltS X) x.r < 0)).map Roo.r := by
    refine strict_one (R := fun a b => cmpR a b < 0) (fun x => by rw [Zce.refl]; omega) (fun x y z => Zce.trans x y z) ?_ ?_ fun r => ?_
    · rw [List.pairwise_map]; exact List.Pairwise.filter _ (dlt_ris X)
    · rw [List.pairwise_map]; exact List.Pairwise.filter _ h.up
    · constructor
      · intro hr;obtain ⟨d, hd, rfl⟩ := List.mem_map.1 hr;obtain ⟨h1, h2⟩ := List.mem_filter.1 hd;rw [Bool.and_eq_true, decide_eq_true_eq, decide_eq_true_eq] at h2;obtain ⟨x, hx, e⟩ := List.mem_map.1 h2.1;refine List.mem_map.2 ⟨x, List.mem_filter.2 ⟨hx, ?_⟩, e⟩;have : amt (dltS X) d.1 = d.2 := ZcA (ZcQ X) h1;rw [e, this]; exact decide_eq_true h2.2
      · intro hr;obtain ⟨x, hx, rfl⟩ := List.mem_map.1 hr;obtain ⟨h1, h2⟩ := List.mem_filter.1 hx;have h2 := of_decide_eq_true h2
        have hk : x.r ∈ (dltS X).map Prod.fst := Classical.byContradiction fun hn => by
          have : amt (dltS X) x.r = 0 := mget_not hn;omega
        obtain ⟨d, hd, e⟩ := List.mem_map.1 hk;have : amt (dltS X) d.1 = d.2 := ZcA (ZcQ X) hd;rw [e] at this;refine List.mem_map.2 ⟨d, List.mem_filter.2 ⟨hd, ?_⟩, e⟩;rw [Bool.and_eq_true, decide_eq_true_eq, decide_eq_true_eq];exact ⟨by rw [e]; exact List.mem_map.2 ⟨x, h1, rfl⟩, by omega⟩
  have e1 : plK (ros.map Roo.r) ds (dltS X) = (((dltS X).filter fun d => decide (d.1 ∈ ros.map Roo.r) && decide (d.2 < 0)).map Prod.fst).map fun r => ((ros.map Roo.r).idxOf r, (negQ ds r).length) := by
    unfold plK; rw [List.map_map]; rfl
  rw [e1, key, List.map_map]; rfl
theorem po_at {p : Prb} {ros : List Roo} {its : List Itm} (h : PV p ros its) (on : Nat → Bool) {x : Roo} (hx : x ∈ ros) : (netS ros its on).po.getD ((ros.map Roo.r).idxOf x.r) po0 = poS (its.map dltS) on x := by
  obtain ⟨j, hj, rfl⟩ := List.getElem_of_mem hx;have hj' : j < (ros.map Roo.r).length := by simpa using hj
  have e : (ros.map Roo.r).idxOf ros[j].r = j := by
    have := idx_nodup h.s.r hj';rw [List.getElem_map] at this; exact this
  rw [e];show (ros.map _).getD j po0 = _;rw [ZaT po0 (by simpa using hj), List.getElem_map]
theorem id_inj {its : List Itm} (hn : (its.map Itm.id).Nodup) {i j : Nat} (hi : i < its.length) (hj : j < its.length) (h : (its.getD i itm0).id = (its.getD j itm0).id) : i = j := by
  rw [ZaT itm0 hi, ZaT itm0 hj] at h
  have h3 : (its.map Itm.id)[i]'(by simpa using hi) = (its.map Itm.id)[j]'(by simpa using hj) := by
    rw [List.getElem_map, List.getElem_map]; exact h
  exact (List.getElem_inj hn).1 h3
theorem blkR_eq {p : Prb} {ros : List Roo} {its : List Itm} (h : PV p ros its) (on : Nat → Bool) {i : Nat} (hi : i < its.length) {x : Roo} (hx : x ∈ ros) :
    blkR its (onIds its on its.length) (its.getD i itm0).id x = if amt (dltS (its.getD i itm0)) x.r < 0 then (if badP (netS ros its on) ((ros.map Roo.r).idxOf x.r, (negQ ((its.map dltS).take i) x.r).length) = true then some (excQ (netS ros its on) (ndS (ros.map Roo.r) its on i) ((ros.map Roo.r).idxOf x.r, (negQ ((its.map dltS).take i) x.r).length)) else none) else none := by
  have hdi : i < (its.map dltS).length := by simpa using hi
  have hg : (its.map dltS).getD i [] = dltS (its.getD i itm0) := by rw [ZaT [] hdi, ZaT itm0 hi, List.getElem_map]
  have hq := q_ids h.v (h.w x hx);obtain ⟨B, c1, c2, c3⟩ := negQ_cut hdi x.r;rw [hg] at c1
  have hin : (its.getD i itm0).id ∈ qIds its x.r ↔ amt (dltS (its.getD i itm0)) x.r < 0 := by
    rw [hq, List.mem_map]
    constructor
    · rintro ⟨j, hj, e⟩;have hjl := negQ_lt hj;rw [List.length_map] at hjl;have := id_inj h.s.i hjl hi e;subst this;have := (List.mem_filter.1 hj).2;rw [hg] at this; exact of_decide_eq_true this
    · intro ha;refine ⟨i, ?_, rfl⟩;rw [c1, if_pos ha]; simp
  unfold blkR
  by_cases ha : amt (dltS (its.getD i itm0)) x.r < 0
  · rw [if_pos (hin.2 ha), if_pos ha];rw [if_pos ha] at c1
    obtain ⟨A, hA⟩ : ∃ A, negQ ((its.map dltS).take i) x.r = A := ⟨_, rfl⟩
    rw [hA] at c1 c2 ⊢
    have hQ : qIds its x.r = A.map (fun j => (its.getD j itm0).id) ++ ((its.getD i itm0).id :: B.map fun j => (its.getD j itm0).id) := by
      rw [hq, c1, List.map_append, List.singleton_append, List.map_cons]
    have hAl : (A.map fun j => (its.getD j itm0).id).length = A.length := List.length_map _;have hlt : A.length < (qIds its x.r).length := by rw [hQ, List.length_append, hAl]; simp
    have htk : (qIds its x.r).take A.length = A.map fun j => (its.getD j itm0).id := by rw [hQ, ← hAl, List.take_left']; rfl
    have hat : (qIds its x.r)[A.length] = (its.getD i itm0).id := by
      have : (qIds its x.r)[A.length]? = some (its.getD i itm0).id := by
        rw [hQ, List.getElem?_append_right (by omega), hAl, Nat.sub_self]; rfl
      rw [List.getElem?_eq_getElem hlt] at this; exact Option.some.inj this
    rw [tw_take hlt (fun a ha => by
      rw [htk] at ha;obtain ⟨j, hj, rfl⟩ := List.mem_map.1 ha;have := c2 j hj
      exact decide_eq_true fun e => by have := id_inj h.s.i (by omega) hi e; omega) (by rw [hat]; simp), htk, List.find?_map]
    have e1 : A.find? ((fun a => decide (a ∉ onIds its on its.length)) ∘ fun j => (its.getD j itm0).id) = A.find? fun j => !on j := find_congr fun j hj => by
      have hjl : j < its.length := by have := c2 j hj; omega
      have := on_mem h.s.i on hjl;show decide ((its.getD j itm0).id ∉ _) = !on j
      cases ho : on j with
      | true => exact decide_eq_false fun hn => hn (this.2 ho)
      | false => exact decide_eq_true fun hn => by rw [this.1 hn] at ho; cases ho
    rw [e1, find_idx]
    have hmi : ((netS ros its on).po.getD ((ros.map Roo.r).idxOf x.r) po0).mi = if A.findIdx (fun j => !on j) < A.length then A.findIdx fun j => !on j else (([i] : List Nat) ++ B).findIdx (fun j => !on j) + A.length := by
      rw [po_at h on hx];show miS on (negQ (its.map dltS) x.r) = _;unfold miS;rw [c1, fidx_app]
    have hpq : ((netS ros its on).po.getD ((ros.map Roo.r).idxOf x.r) po0).q = negQ (its.map dltS) x.r := by rw [po_at h on hx]; rfl
    have hpr : ((netS ros its on).po.getD ((ros.map Roo.r).idxOf x.r) po0).r = x.r := by rw [po_at h on hx]; rfl
    unfold badP excQ;dsimp only;rw [hmi, hpq, hpr]
    by_cases hm : A.findIdx (fun j => !on j) < A.length
    · rw [if_pos hm, if_pos (decide_eq_true hm), List.getElem?_eq_getElem hm];have hjm := List.getElem_mem hm;have hjl : A[A.findIdx fun j => !on j] < its.length := by have := c2 _ hjm; omega
      have e2 : (negQ (its.map dltS) x.r).getD (A.findIdx fun j => !on j) 0 = A[A.findIdx fun j => !on j] := by
        rw [c1, List.getD_eq_getElem?_getD, List.getElem?_append_left hm, List.getElem?_eq_getElem hm]; rfl
      rw [e2, S_getN hjl]; rfl
    · rw [if_neg hm, if_neg (by simp), List.getElem?_eq_none (by omega)]; rfl
  · rw [if_neg (fun hh => ha (hin.1 hh)), if_neg ha]
end Go.Proofs.YtneihdahboilnaaGreat
/- Layer 30: the removal procedure is the reference's. Plain laws. -/
namespace Go.Proofs.YtneihdahboilnaaGreat
open Go.RowKit

theorem block_eq {p : Prb} {ros : List Roo} {its : List Itm} (h : PV p ros its) (on : Nat → Bool) {i : Nat} (hi : i < its.length) : blockR p (onIds its on its.length) (its.getD i itm0).id = inadm (netS ros its on) (ndS (ros.map Roo.r) its on i) := by
  have hXm : its.getD i itm0 ∈ its := by rw [ZaT itm0 hi]; exact List.getElem_mem hi
  have hXp : its.getD i itm0 ∈ p.it := by rw [← h.hi] at hXm; rw [← h.hi]; exact (Zbe p.it).mem_iff.1 hXm
  have e1 : ros.findSome? (blkR its (onIds its on its.length) (its.getD i itm0).id) = ((plK (ros.map Roo.r) ((its.map dltS).take i) (dltS (its.getD i itm0))).find? (badP (netS ros its on))).map (excQ (netS ros its on) (ndS (ros.map Roo.r) its on i)) := by
    rw [pl_eq h, find_map_fs, ← fs_filter (p := fun x => decide (amt (dltS (its.getD i itm0)) x.r < 0)) (fun x hx hp => by rw [blkR_eq h on hi hx, if_neg (of_decide_eq_false hp)])];refine fs_congr fun x hx => ?_;obtain ⟨h1, h2⟩ := List.mem_filter.1 hx;rw [blkR_eq h on hi h1, if_pos (of_decide_eq_true h2)]
  have e2 : itmOf p (its.getD i itm0).id = its.getD i itm0 := by
    obtain ⟨hk, _, h2, h3⟩ := ZbV (p := p) (id := (its.getD i itm0).id) (List.mem_map.2 ⟨_, hXp, rfl⟩);refine ids_inj (Zcx (Zbn h.e).2.1) (by rw [h2]; exact List.getElem_mem hk) hXp h3
  have e3 : (its.getD i itm0).af.find? (fun a => decide (a ∉ onIds its on its.length)) = (its.getD i itm0).af.find? (offOf (netS ros its on)) := find_congr fun a ha => by
    have hm := h.s.a _ hXm a ha;have hj := List.idxOf_lt_length_of_mem hm;have hja := List.getElem_idxOf hj;unfold offOf;rw [S_ids]
    generalize (its.map Itm.id).idxOf a = j at hj hja ⊢
    have hj' : j < its.length := by simpa using hj
    rw [List.getElem_map] at hja;rw [S_getN hj'];show _ = !on j;have := on_mem h.s.i on hj';rw [ZaT itm0 hj', hja] at this
    cases ho : on j with
    | true => exact decide_eq_false fun hn => hn (this.2 ho)
    | false => exact decide_eq_true fun hn => by rw [this.1 hn] at ho; cases ho
  unfold blockR;rw [h.hr, h.hi, e1, e2, e3];unfold inadm
  show _ = match (plK (ros.map Roo.r) ((its.map dltS).take i) (dltS (its.getD i itm0))).find? (badP (netS ros its on)) with
    | some e => some (excQ (netS ros its on) (ndS (ros.map Roo.r) its on i) e)
    | none => match (its.getD i itm0).af.find? (offOf (netS ros its on)) with
      | some id => some ⟨(its.getD i itm0).id, 2, rscZ, id⟩
      | none => none
  cases (plK (ros.map Roo.r) ((its.map dltS).take i) (dltS (its.getD i itm0))).find? (badP (netS ros its on)) with
  | some e => rfl
  | none =>
    show ((its.getD i itm0).af.find? (offOf (netS ros its on))).map _ = _
    cases (its.getD i itm0).af.find? (offOf (netS ros its on)) <;> rfl
theorem next_eq {p : Prb} {ros : List Roo} {its : List Itm} (h : PV p ros its) (on : Nat → Bool) : nextR p (onIds its on its.length) = nextN (netS ros its on) := by
  have e1 : (onIds its on its.length).findSome? (blockR p (onIds its on its.length)) = (netS ros its on).nd.findSome? (ndX (netS ros its on)) := by
    show (((List.range its.length).filter on).map fun i => (its.getD i itm0).id).findSome? _ = ((List.range its.length).map _).findSome? _;rw [List.findSome?_map, List.findSome?_map]
    rw [← fs_filter (p := on) (l := List.range its.length) (f := ndX (netS ros its on) ∘ ndS (ros.map Roo.r) its on) (fun i _ ho => by
      show ndX _ (ndS _ _ _ i) = none;unfold ndX;rw [if_neg];show ¬ (on i = true)
      rw [ho]; simp)]
    refine fs_congr fun i hi => ?_;obtain ⟨h1, h2⟩ := List.mem_filter.1 hi;show blockR p _ (its.getD i itm0).id = ndX _ (ndS _ _ _ i);rw [block_eq h on (List.mem_range.1 h1)];unfold ndX;rw [if_pos];exact h2
  have e2 : ros.findSome? (overX its p.it (onIds its on its.length)) = (netS ros its on).po.findSome? (poX (netS ros its on)) := by
    show _ = (ros.map _).findSome? _;rw [List.findSome?_map];exact fs_congr fun x hx => over_eq h on hx
  unfold nextR nextN;rw [h.hr, h.hi, e1, e2]
  cases (netS ros its on).nd.findSome? (ndX (netS ros its on)) <;> rfl
theorem without_off {its : List Itm} (hn : (its.map Itm.id).Nodup) (on : Nat → Bool) {i : Nat} (hi : i < its.length) : without (onIds its on its.length) (its.getD i itm0).id = onIds its (setOff on i) its.length := by
  unfold without onIds;rw [List.filter_map, List.filter_filter]
  congr 1
  refine List.filter_congr fun j hj => ?_;have hj' := List.mem_range.1 hj;show (decide ((its.getD j itm0).id ≠ (its.getD i itm0).id) && on j) = setOff on i j
  by_cases e : j = i
  · subst e; rw [setOff_at]; simp
  · have hne : (its.getD j itm0).id ≠ (its.getD i itm0).id := fun h => e (id_inj hn hj' hi h);rw [Zc2 e, decide_eq_true hne, Bool.true_and]
end Go.Proofs.YtneihdahboilnaaGreat
/- Layer 30: the law's helpers. -/
namespace Go.Proofs.YtneihdahboilnaaGreat
open Go.RowKit

def FewQ (p : Prb) (n : Nat) : Prop := p.it.length ≤ n ∧ p.ro.length ≤ 30 ∧ ∀ i ∈ p.it, i.po.length ≤ 8 ∧ i.pa.length ≤ 8 ∧ i.af.length ≤ 8
instance (p : Prb) (n : Nat) : Decidable (FewQ p n) := inferInstanceAs (Decidable (_ ∧ _ ∧ ∀ i ∈ p.it, _))
theorem few_of {p : Prb} {n : Nat} (h : FewQ p n) (hn : n ≤ 30) : FewP p := ⟨by have := h.1; omega, by have := h.2.1; omega, h.2.2⟩
set_option maxRecDepth 100000 in
theorem few_p (p : Prb) (n : Nat) (hn : n ≤ 1000) : PCalls Tryz.prog 13 [.d (prbD p), .d (intD (n : Int))] (boolD (decide (FewQ p n))) := by
  refine ZaI Tryz.func13 rfl rfl Tryz.ntmps13 rfl rfl rfl fun F hF => (Zag (Zab (Zam.go (ZaS 1 rfl rfl rfl rfl rfl rfl rfl) (Zaa.go (Zad rfl rfl) (Zaf (Zag ?_))))));refine Zag (Zab (Zaa.go (Zai rfl ZaU rfl rfl rfl) (Zaa.go (Zaj rfl rfl rfl on23 rfl) (Zaa.go (ZaD rfl Tryz.underlying23 rfl) (Zaa.go (Zac rfl rfl) (Zaa.go (ZbJ rfl rfl rfl) (Zaa.go (Zac rfl rfl) (Za3 11 rfl (fun h11 => ?_) (fun h11 => ?_)))))))))
  · refine Zak rfl rfl rfl rfl (Zak rfl rfl rfl rfl (Zak rfl rfl rfl rfl ?_));refine Zak rfl rfl rfl rfl (Zaa.go (ZaB rfl rfl rfl rfl) (Zaf (ZaW rfl rfl (Zag (Zab (Zaa.go (Zad rfl rfl) (Zaf (Zav ?_))))))));exact ⟨_, [], [], Zaq rfl, rfl, rfl, retF (fun h => by have h1 := h.1; have h2 := h.2.1; omega), rfl⟩
  · refine Zal rfl rfl rfl (Zaa.go (Zai rfl ZaL rfl rfl rfl) ?_);refine Zal rfl rfl rfl (Zaa.go (Zaj rfl rfl rfl on22 rfl) (Zal rfl rfl rfl (Zaa.go (ZaD rfl Tryz.underlying22 rfl) (Zal rfl rfl rfl (Zaa.go (ZbJ rfl rfl rfl) (Zaa.go (ZaH rfl rfl rfl rfl) (Zaf (ZaK rfl (fun h16 => ?_) (fun h16 => ?_)))))))))
    · refine Zag (Zab (Zaa.go (Zad rfl rfl) (Zaf (Zav ?_))));exact ⟨_, [], [], Zaq rfl, rfl, rfl, retF (fun h => by have h1 := h.1; have h2 := h.2.1; omega), rfl⟩
    · refine Zas (Zag (Zag (Zab (Zaa.go (Zad rfl rfl) (Zaf (Zat (ZaO (α := Nat) (fun k => ⟨52, [(2, (.ptr 1 0 0)), (5, (.d (intD (k : Int))))], [(1, [prbB2 25 p])]⟩) (fun k => k ≤ p.it.length ∧ ∀ i ∈ p.it.take k, i.po.length ≤ 8 ∧ i.pa.length ≤ 8 ∧ i.af.length ≤ 8) (fun k => p.it.length - k) (0) (⟨Nat.zero_le _, by simp⟩) (Zaw hF [1] rfl rfl ⟨rfl, rfl, trivial⟩) ?_)))))));rintro k ⟨hk0, hk⟩;refine Zag ?_;refine Zag (Zab (Zaa.go (Zac rfl rfl) (Zaa.go (Zai rfl ZaU rfl rfl rfl) (Zaa.go (Zaj rfl rfl rfl on23 rfl) (Zaa.go (ZaD rfl Tryz.underlying23 rfl) (Zaa.go (ZaM rfl rfl rfl) (Zaf (ZaK rfl (fun h21 => ?_) (fun h21 => ?_)))))))))
      · have hk1 : k < p.it.length := ZaP h21;refine Zas (Zag (Zat (Zag (Zab (Zaa.go (Zai rfl ZaU rfl rfl rfl) ?_)))));refine Zaa.go (Zaj rfl rfl rfl on23 rfl) (Zaa.go (Zac rfl rfl) (Zaa.go (Zay (k) rfl rfl (rfl) (getm hk1) Tryz.underlying23 rfl sz64 rfl) (Zaa.go (Zau rfl Zbg rfl rfl rfl) (Zaa.go (Zaz rfl rfl on61 rfl) (Zaa.go (ZaD rfl Tryz.underlying61 rfl) (Zaa.go (ZbJ rfl rfl rfl) (Zaa.go (Zac rfl rfl) (Za3 32 rfl (fun h32 => ?_) (fun h32 => ?_)))))))))
        · refine Zak rfl rfl rfl rfl (Zak rfl rfl rfl rfl (Zak rfl rfl rfl rfl (Zak rfl rfl rfl rfl (Zak rfl rfl rfl rfl (Zak rfl rfl rfl rfl (Zak rfl rfl rfl rfl (Zak rfl rfl rfl rfl ?_)))))));refine Zaa.go (ZaB rfl rfl rfl rfl) (Zaa.go (Zac rfl rfl) (Zak rfl rfl rfl rfl (Zak rfl rfl rfl rfl (Zak rfl rfl rfl rfl (Zak rfl rfl rfl rfl (Zak rfl rfl rfl rfl (Zak rfl rfl rfl rfl (Zak rfl rfl rfl rfl ?_))))))));refine Zak rfl rfl rfl rfl (Zaa.go (ZaB rfl rfl rfl rfl) (Zaf (ZaW rfl rfl (Zag (Zab (Zaa.go (Zad rfl rfl) (Zaf (Zav ?_))))))));exact ⟨_, [], [], Zaq rfl, rfl, rfl, retF (fun h => by have h1 := h.2.2 _ (List.getElem_mem hk1); omega), rfl⟩
        · refine Zal rfl rfl rfl ?_;refine Zaa.go (Zai rfl ZaU rfl rfl rfl) (Zal rfl rfl rfl (Zaa.go (Zaj rfl rfl rfl on23 rfl) (Zal rfl rfl rfl (Zaa.go (Zac rfl rfl) (Zal rfl rfl rfl (Zaa.go (Zay (k) rfl rfl (rfl) (getm hk1) Tryz.underlying23 rfl sz64 rfl) (Zal rfl rfl rfl (Zaa.go (Zau rfl Za8 rfl rfl rfl) ?_))))))));refine Zal rfl rfl rfl (Zaa.go (Zaz rfl rfl on62 rfl) (Zal rfl rfl rfl (Zaa.go (ZaD rfl Tryz.underlying62 rfl) (Zal rfl rfl rfl (Zaa.go (ZbJ rfl rfl rfl) (Zaa.go (ZaH rfl rfl rfl rfl) (Zaa.go (Zac rfl rfl) (Za3 42 rfl (fun h42 => ?_) (fun h42 => ?_)))))))))
          · refine Zak rfl rfl rfl rfl (Zak rfl rfl rfl rfl (Zak rfl rfl rfl rfl (Zak rfl rfl rfl rfl (Zak rfl rfl rfl rfl (Zak rfl rfl rfl rfl (Zak rfl rfl rfl rfl ?_))))));refine Zak rfl rfl rfl rfl (Zaa.go (ZaB rfl rfl rfl rfl) (Zaf (ZaW rfl rfl (Zag (Zab (Zaa.go (Zad rfl rfl) (Zaf (Zav ?_))))))));exact ⟨_, [], [], Zaq rfl, rfl, rfl, retF (fun h => by have h1 := h.2.2 _ (List.getElem_mem hk1); omega), rfl⟩
          · refine Zal rfl rfl rfl ?_;refine Zaa.go (Zai rfl ZaU rfl rfl rfl) (Zal rfl rfl rfl (Zaa.go (Zaj rfl rfl rfl on23 rfl) (Zal rfl rfl rfl (Zaa.go (Zac rfl rfl) (Zal rfl rfl rfl (Zaa.go (Zay (k) rfl rfl (rfl) (getm hk1) Tryz.underlying23 rfl sz64 rfl) (Zal rfl rfl rfl (Zaa.go (Zau rfl Zbk rfl rfl rfl) ?_))))))));refine Zal rfl rfl rfl (Zaa.go (Zaz rfl rfl on28 rfl) (Zal rfl rfl rfl (Zaa.go (ZaD rfl Tryz.underlying28 rfl) (Zal rfl rfl rfl (Zaa.go (ZbJ rfl rfl rfl) (Zaa.go (ZaH rfl rfl rfl rfl) (Zaf (ZaK rfl (fun h51 => ?_) (fun h51 => ?_)))))))))
            · refine Zag (Zab (Zaa.go (Zad rfl rfl) (Zaf (Zav ?_))));exact ⟨_, [], [], Zaq rfl, rfl, rfl, retF (fun h => by have h1 := h.2.2 _ (List.getElem_mem hk1); omega), rfl⟩
            · refine Zas (Zab (Zaa.go (Zac rfl rfl) (Zaa.go (ZaG rfl rfl (wrapS (k + 1) (by omega)) rfl) (Zaa.go (Zad rfl rfl) (Zaf ?_)))));exact ⟨k + 1, ⟨by show k + 1 ≤ _; omega, by rw [List.take_succ_eq_append_getElem hk1]; intro i hi; rcases List.mem_append.1 hi with hi | hi; exact hk i hi; rw [List.mem_singleton.1 hi]; omega⟩, by show p.it.length - (k + 1) < p.it.length - k; omega, Zaw hF [1] rfl (rfl) ⟨rfl, rfl, trivial⟩⟩
      · refine ZaQ (Zag (Zab (Zaa.go (Zad rfl rfl) (Zaf (Zav ?_)))));exact ⟨_, [], [], Zaq rfl, rfl, rfl, retT ⟨by omega, by omega, fun i hi => hk i (by rw [List.take_of_length_le (by have h := h21; omega)]; exact hi)⟩, rfl⟩
set_option maxRecDepth 100000 in
theorem same30_p (l m : List Int) (hl : l.length ≤ 100000) (hm : m.length ≤ 100000) : PCalls Tryz.prog 19 [.d (.sl none (l.map intD)), .d (.sl none (m.map intD))] (boolD (decide (l = m))) := by
  refine ZaI Tryz.func19 rfl rfl Tryz.ntmps19 rfl rfl rfl fun F hF => (Zag (Zab (Zaa.go (Zad rfl rfl) (Zaf (Zag ?_)))));refine Zag (Zab (Zaa.go (Zac rfl rfl) (Zaa.go (ZaD rfl Tryz.underlying28 rfl) (Zaa.go (Zac rfl rfl) (Zaa.go (ZaD rfl Tryz.underlying28 rfl) (Zaa.go (Za0 rfl rfl rfl) (Zaf (ZaK rfl (fun h10 => ?_) (fun h10 => ?_)))))))))
  · refine Zag (Zab (Zaa.go (Zad rfl rfl) (Zaf (Zav ?_))));exact ⟨_, [], [], Zaq rfl, rfl, rfl, retF (fun h => by have h1 := congrArg List.length h; have h := h10; omega), rfl⟩
  · refine Zas (Zag (Zag ?_));have hlen : l.length = m.length := by have h := h10; omega
    refine Zab (Zaa.go (Zad rfl rfl) (Zaf (Zat (ZaO (α := Nat) (fun k => ⟨26, [(0, .d (.sl none (l.map intD))), (1, .d (.sl none (m.map intD))), (5, (.d (intD (k : Int))))], []⟩) (fun k => k ≤ l.length ∧ l.take k = m.take k) (fun k => l.length - k) (0) (⟨Nat.zero_le _, by simp⟩) (Zaw hF [] rfl rfl ⟨rfl, rfl, rfl, trivial⟩) ?_))));rintro k ⟨hk0, hk⟩;refine Zag (Zag (Zab (Zaa.go (Zac rfl rfl) (Zaa.go (Zac rfl rfl) (Zaa.go (ZaD rfl Tryz.underlying28 rfl) (Zaa.go (ZaM rfl rfl rfl) (Zaf (ZaK rfl (fun h14 => ?_) (fun h14 => ?_)))))))))
    · have hk1 : k < l.length := ZaP h14;refine Zas (Zag (Zat (Zag ?_)));have hk2 : k < m.length := by omega
      refine Za2 [[], [], [0, 1], [0, 1, 2], [], [], [4, 5], [4, 5, 6], [0, 1, 2, 3, 4, 5, 6, 7]] mixed rfl (dws (Zah [0] [] rfl rfl (fun _ => Zae (Zac rfl rfl)) (Zah [5] [] rfl rfl (fun _ => Zae (Zac rfl rfl)) (Zah [17, 18] [] rfl rfl (fun _ => Zae (Zay (k) rfl rfl (rfl) (getm hk1) Tryz.underlying28 rfl sz3 rfl)) ?_))));refine Zah [19] [] rfl rfl (fun _ => Zae (Zaz rfl rfl on3 rfl)) (Zah [1] [] rfl rfl (fun _ => Zae (Zac rfl rfl)) (Zah [5] [] rfl rfl (fun _ => Zae (Zac rfl rfl)) (Zah [21, 22] [] rfl rfl (fun _ => Zae (Zay (k) rfl rfl (rfl) (getm hk2) Tryz.underlying28 rfl sz3 rfl)) (Zah [23] [] rfl rfl (fun _ => Zae (Zaz rfl rfl on3 rfl)) (dwc 8 rfl rfl rfl (dw1 9 rfl rfl (Zaa.go (Za0 rfl rfl rfl) (Zaf ⟨rfl, ?_⟩))))))));refine dwe (ZaK rfl (fun h25 => ?_) (fun h25 => ?_))
      · refine Zag (Zab (Zaa.go (Zad rfl rfl) (Zaf (Zav ?_))));exact ⟨_, [], [], Zaq rfl, rfl, rfl, retF (fun h => by subst h; exact h25 rfl), rfl⟩
      · refine Zas (Zab (Zaa.go (Zac rfl rfl) (Zaa.go (ZaG rfl rfl (wrapS (k + 1) (by omega)) rfl) (Zaa.go (Zad rfl rfl) (Zaf ?_)))));exact ⟨k + 1, ⟨by show k + 1 ≤ _; omega, by rw [List.take_succ_eq_append_getElem hk1, List.take_succ_eq_append_getElem hk2, hk, Classical.not_not.1 h25]⟩, by show l.length - (k + 1) < l.length - k; omega, Zaw hF [] rfl (rfl) ⟨rfl, rfl, rfl, trivial⟩⟩
    · refine ZaQ (Zag (Zab (Zaa.go (Zad rfl rfl) (Zaf (Zav ?_)))));exact ⟨_, [], [], Zaq rfl, rfl, rfl, retT (by have h1 := hk; rw [List.take_of_length_le (by have h := h14; omega), List.take_of_length_le (by have h := h14; omega)] at h1; exact h1), rfl⟩
end Go.Proofs.YtneihdahboilnaaGreat
/- Layer 30: the reference's feasible sets; AtRest. -/
namespace Go.Proofs.YtneihdahboilnaaGreat
open Go.RowKit

def feasR (p : Prb) (l : List Int) : Prop := (∀ id ∈ l, blockR p l id = none) ∧ ∀ x ∈ p.ro, ¬ overL p.it x l < 0
noncomputable instance (p : Prb) (l : List Int) : Decidable (feasR p l) := Classical.propDecidable _
end Go.Proofs.YtneihdahboilnaaGreat
/- Layer 30: what the removal leaves is the largest feasible set. Plain laws. -/
namespace Go.Proofs.YtneihdahboilnaaGreat
open Go.RowKit

theorem netS_ers (ros : List Roo) (its : List Itm) (on : Nat → Bool) : ersN (netS ros its on) = netS ros its on := by
  unfold ersN netS;dsimp only;rw [List.map_map, List.map_map]; rfl
theorem next_at {ros : List Roo} {its : List Itm} (hn : (its.map Itm.id).Nodup) {on : Nat → Bool} {e : Exc} (h : nextN (netS ros its on) = some e) : ∃ i, i < its.length ∧ on i = true ∧ (its.getD i itm0).id = e.id ∧ (its.map Itm.id).idxOf e.id = i := by
  obtain ⟨i, x, hx, hon, hid⟩ := next_on h;obtain ⟨hi, ho, hit⟩ := S_nd_at (netS_ers ros its on) hx;have hei : (its.getD i itm0).id = e.id := by rw [hid, hit]
  refine ⟨i, hi, by rw [← ho]; exact hon, hei, ?_⟩;have h1 := idx_nodup hn (i := i) (by simpa using hi);rw [List.getElem_map] at h1;rw [← hei, ZaT itm0 hi]; exact h1
theorem run_end {ros : List Roo} {its : List Itm} (hn : (its.map Itm.id).Nodup) : ∀ (f : Nat) (on : Nat → Bool), cntOn its.length on ≤ f → nextN (netS ros its (runS ros its f on).2) = none
  | 0, on, h => by
    show nextN (netS ros its on) = none
    cases hne : nextN (netS ros its on) with
    | none => rfl
    | some e =>
      obtain ⟨i, hi, ho, _, _⟩ := next_at hn hne;have := cntOn_off hi ho;omega
  | f + 1, on, h => by
    cases hne : nextN (netS ros its on) with
    | none => rw [run_none hne]; exact hne
    | some e =>
      obtain ⟨i, hi, ho, _, hx⟩ := next_at hn hne;have := cntOn_off hi ho;rw [run_some hne, hx];exact run_end hn f (setOff on i) (by omega)
theorem cntOn_le (n : Nat) (on : Nat → Bool) : cntOn n on ≤ n := by
  unfold cntOn;exact Nat.le_trans (List.length_filter_le _ _) (by simp)
theorem large_next {p : Prb} (hE : prbE p = 0) (hf : FewP p) : nextR p (largeS p) = none := by
  have h := pv_of hE hf;have h1 : ordP p = sortO p.it := if_pos hE;unfold largeS explS;rw [h1, next_eq h];exact run_end h.s.i _ _ (cntOn_le _ _)
theorem overL_nonneg {its : List Itm} {x : Roo} {l : List Int} (h : ∀ i ∈ its, i.id ∈ l → 0 ≤ dltE i x.r) : 0 ≤ overL its x l := by
  have h0 : (0 : Int) ≤ max x.n 0 := Int.le_max_right _ _
  have h1 : ∀ m : List Itm, (∀ i ∈ m, 0 ≤ dltE i x.r) → 0 ≤ (m.map fun i => dltE i x.r).sum := fun m => by
    induction m with
    | nil => intro _; simp
    | cons a m ih =>
      intro hm;have := hm a (List.mem_cons_self ..);have := ih fun i hi => hm i (List.mem_cons_of_mem _ hi);simp only [List.map_cons, List.sum_cons]; omega
  have := h1 (its.filter fun i => decide (i.id ∈ l)) fun i hi => by
    obtain ⟨h2, h3⟩ := List.mem_filter.1 hi;exact h i h2 (of_decide_eq_true h3)
  unfold overL; omega
theorem feas_none {p : Prb} {l : List Int} (h : nextR p l = none) : feasR p l := by
  unfold nextR at h
  cases h1 : l.findSome? (blockR p l) with
  | some e => rw [h1] at h; cases h
  | none =>
    rw [h1] at h;refine ⟨fun id hid => List.findSome?_eq_none_iff.1 h1 id hid, fun x hx ho => ?_⟩;have h2 := List.findSome?_eq_none_iff.1 h x ((ZcE p).mem_iff.2 hx);unfold overX at h2;rw [if_pos ho] at h2
    have h3 : (qIds (sortO p.it) x.r).reverse.find? (fun a => decide (a ∈ l)) = none := by
      cases hf : (qIds (sortO p.it) x.r).reverse.find? (fun a => decide (a ∈ l)) with
      | none => rfl
      | some a => rw [hf] at h2; cases h2
    have h4 := List.find?_eq_none.1 h3
    have := overL_nonneg (its := p.it) (x := x) (l := l) fun i hi hl => Classical.byContradiction fun hneg => by
      have hq : i.id ∈ qIds (sortO p.it) x.r := List.mem_map.2 ⟨i, List.mem_filter.2 ⟨(Zbe p.it).mem_iff.2 hi, by simpa using hneg⟩, rfl⟩;have := h4 _ (List.mem_reverse.2 hq)
      simp at this
      exact this hl
    omega
theorem Zco {p : Prb} (hE : prbE p = 0) (hf : FewP p) : feasR p (largeS p) := feas_none (large_next hE hf)
theorem block_mono {p : Prb} {l t : List Int} {id : Int} (hs : ∀ x ∈ t, x ∈ l) (h : blockR p t id = none) : blockR p l id = none := by
  unfold blockR at h ⊢
  cases h1 : (rosS p).findSome? (blkR (sortO p.it) t id) with
  | some e => rw [h1] at h; cases h
  | none =>
    rw [h1] at h
    have h2 : (rosS p).findSome? (blkR (sortO p.it) l id) = none := findSome_no fun x hx => by
      have h3 := List.findSome?_eq_none_iff.1 h1 x hx;unfold blkR at h3 ⊢
      split
      · rename_i hq
        rw [if_pos hq] at h3
        have h4 : ((qIds (sortO p.it) x.r).takeWhile fun a => decide (a ≠ id)).find? (fun a => decide (a ∉ t)) = none := by
          cases hf : ((qIds (sortO p.it) x.r).takeWhile fun a => decide (a ≠ id)).find? (fun a => decide (a ∉ t)) with
          | none => rfl
          | some a => rw [hf] at h3; cases h3
        rw [Zc7 (fun a ha => by
          have := List.find?_eq_none.1 h4 a ha
          simp at this
          simpa using hs a this)]; rfl
      · rfl
    rw [h2];dsimp only at h ⊢
    have h5 : (itmOf p id).af.find? (fun a => decide (a ∉ t)) = none := by
      cases hf : (itmOf p id).af.find? (fun a => decide (a ∉ t)) with
      | none => rfl
      | some a => rw [hf] at h; cases h
    rw [Zc7 (fun a ha => by
      have := List.find?_eq_none.1 h5 a ha
      simp at this
      simpa using hs a this)]; rfl
end Go.Proofs.YtneihdahboilnaaGreat
/- Layer 30: every feasible set lies in what the removal leaves. Plain laws. -/
namespace Go.Proofs.YtneihdahboilnaaGreat
open Go.RowKit

theorem overL_le {x : Roo} {l t : List Int} (hs : ∀ y ∈ t, y ∈ l) : ∀ {its : List Itm}, (∀ i ∈ its, i.id ∈ l → i.id ∉ t → 0 ≤ dltE i x.r) → overL its x t ≤ overL its x l
  | [], _ => Int.le_refl _
  | a :: its, h => by
    have ih := overL_le hs (its := its) fun i hi => h i (List.mem_cons_of_mem _ hi);have ha := h a (List.mem_cons_self ..);unfold overL at ih ⊢;rw [List.filter_cons, List.filter_cons]
    by_cases h1 : a.id ∈ t
    · rw [if_pos (decide_eq_true h1), if_pos (decide_eq_true (hs _ h1))];simp only [List.map_cons, List.sum_cons]; omega
    · rw [if_neg (by simpa using h1)]
      by_cases h2 : a.id ∈ l
      · rw [if_pos (decide_eq_true h2)];have := ha h2 h1;simp only [List.map_cons, List.sum_cons]; omega
      · rw [if_neg (by simpa using h2)]; exact ih
theorem not_next {p : Prb} (hE : prbE p = 0) {l t : List Int} (ht : feasR p t) (hs : ∀ y ∈ t, y ∈ l) {e : Exc} (hn : nextR p l = some e) : e.id ∉ t := fun het => by
  unfold nextR at hn
  split at hn
  · rename_i e' h1
    injection hn with hn; subst hn
    obtain ⟨id, hid, h2⟩ := List.exists_of_findSome?_eq_some h1;have h3 := blockR_id h2;rw [h3] at het;rw [block_mono hs (ht.1 id het)] at h2; cases h2
  · obtain ⟨x, hx, h2⟩ := List.exists_of_findSome?_eq_some hn;have hxp := (ZcE p).mem_iff.1 hx;unfold overX at h2
    split at h2
    · rename_i ho
      obtain ⟨a, ha, rfl⟩ := Option.map_eq_some_iff.1 h2;dsimp only at het;obtain ⟨hal, u, v, huv, hu⟩ := List.find?_eq_some_iff_append.1 ha
      have hQ : qIds (sortO p.it) x.r = v.reverse ++ a :: u.reverse := by
        have := congrArg List.reverse huv;rw [List.reverse_reverse, List.reverse_append, List.reverse_cons, List.append_assoc] at this;exact this
      have hQn : (qIds (sortO p.it) x.r).Nodup := by
        have h1 : ((sortO p.it).map Itm.id).Nodup := ((Zbe p.it).map Itm.id).nodup_iff.2 (Zcx (Zbn hE).2.1);unfold qIds;exact h1.sublist ((List.filter_sublist).map Itm.id)
      have hav : a ∉ v.reverse := fun hm => by
        rw [hQ, List.nodup_append] at hQn;exact hQn.2.2 _ hm _ (List.mem_cons_self ..) rfl
      have hblk := ht.1 a het
      have hall : ∀ b ∈ v.reverse, b ∈ t := fun b hb => by
        unfold blockR at hblk
        cases h1 : (rosS p).findSome? (blkR (sortO p.it) t a) with
        | some e => rw [h1] at hblk; cases hblk
        | none =>
          have h3 := List.findSome?_eq_none_iff.1 h1 x hx;unfold blkR at h3;rw [if_pos (by rw [hQ]; simp)] at h3;have hlt : v.reverse.length < (qIds (sortO p.it) x.r).length := by rw [hQ, List.length_append]; simp
          have htk : (qIds (sortO p.it) x.r).take v.reverse.length = v.reverse := by rw [hQ, List.take_left']; rfl
          have hat : (qIds (sortO p.it) x.r)[v.reverse.length] = a := by
            have : (qIds (sortO p.it) x.r)[v.reverse.length]? = some a := by
              rw [hQ, List.getElem?_append_right (Nat.le_refl _), Nat.sub_self]; rfl
            rw [List.getElem?_eq_getElem hlt] at this; exact Option.some.inj this
          rw [tw_take hlt (fun c hc => by rw [htk] at hc; exact decide_eq_true fun e => hav (e ▸ hc)) (by rw [hat]; simp), htk] at h3
          have h4 : v.reverse.find? (fun a => decide (a ∉ t)) = none := by
            cases hf : v.reverse.find? (fun a => decide (a ∉ t)) with
            | none => rfl
            | some c => rw [hf] at h3; cases h3
          have := List.find?_eq_none.1 h4 b hb
          simpa using this
      have hle := overL_le (x := x) hs (its := p.it) fun i hi h1 h2 => Classical.byContradiction fun hneg => by
        have hq : i.id ∈ qIds (sortO p.it) x.r := List.mem_map.2 ⟨i, List.mem_filter.2 ⟨(Zbe p.it).mem_iff.2 hi, by simpa using hneg⟩, rfl⟩;rw [hQ] at hq;rcases List.mem_append.1 hq with hq | hq
        · exact h2 (hall _ hq)
        · rcases List.mem_cons.1 hq with hq | hq
          · rw [hq] at h2; exact h2 het
          · have := hu _ (List.mem_reverse.1 hq)
            simp at this
            exact this h1
      exact ht.2 x hxp (by omega)
    · cases h2
theorem ZcV {p : Prb} (hE : prbE p = 0) (hf : FewP p) {t : List Int} (ht : feasR p t) (hs : ∀ y ∈ t, y ∈ p.it.map Itm.id) : ∀ y ∈ t, y ∈ largeS p := by
  have h := pv_of hE hf;have h1 : ordP p = sortO p.it := if_pos hE
  have key : ∀ (f : Nat) (on : Nat → Bool), (∀ y ∈ t, y ∈ onIds (sortO p.it) on (sortO p.it).length) → ∀ y ∈ t, y ∈ onIds (sortO p.it) (runS (rosS p) (sortO p.it) f on).2 (sortO p.it).length := by
    intro f
    induction f with
    | zero => intro on ho; exact ho
    | succ f ih =>
      intro on ho
      cases hne : nextN (netS (rosS p) (sortO p.it) on) with
      | none => rw [run_none hne]; exact ho
      | some e =>
        obtain ⟨i, hi, _, hei, hx⟩ := next_at h.s.i hne;rw [run_some hne, hx];refine ih (setOff on i) fun y hy => ?_;have hnt := not_next hE ht ho (by rw [next_eq h]; exact hne);rw [← without_off h.s.i on hi, hei];exact List.mem_filter.2 ⟨ho y hy, decide_eq_true fun e2 => hnt (e2 ▸ hy)⟩
  unfold largeS explS;rw [h1];refine key _ _ fun y hy => ?_
  have h2 : onIds (sortO p.it) (fun _ => true) (sortO p.it).length = (sortO p.it).map Itm.id := by
    conv => rhs; rw [its_range (sortO p.it)]
    unfold onIds;rw [List.map_map, List.filter_eq_self.2 (fun _ _ => rfl)]; rfl
  rw [h2];exact ((Zbe p.it).map Itm.id).mem_iff.2 (hs y hy)
end Go.Proofs.YtneihdahboilnaaGreat
/- Layer 30: the reference's union of all feasible sets. -/
namespace Go.Proofs.YtneihdahboilnaaGreat
open Go.RowKit

def sub30 (ids : List Int) (m k : Nat) : List Int := ((List.range k).filter fun j => decide (m / 2 ^ j % 2 = 1)).map fun j => ids.getD j 0
def InU (p : Prb) (ids : List Int) (M : Nat) (x : Int) : Prop := ∃ m, m < M ∧ feasR p (sub30 ids m ids.length) ∧ x ∈ sub30 ids m ids.length
noncomputable instance (p : Prb) (ids : List Int) (M : Nat) (x : Int) : Decidable (InU p ids M x) := Classical.propDecidable _
end Go.Proofs.YtneihdahboilnaaGreat
/- Layer 30: the union of all feasible sets is what the removal leaves. Plain laws. -/
namespace Go.Proofs.YtneihdahboilnaaGreat
open Go.RowKit

theorem onIds_filter {its : List Itm} (hn : (its.map Itm.id).Nodup) (on : Nat → Bool) : onIds its on its.length = (its.map Itm.id).filter fun x => decide (x ∈ onIds its on its.length) := by
  obtain ⟨l, hl⟩ : ∃ l, onIds its on its.length = l := ⟨_, rfl⟩
  have h1 : its.map Itm.id = (List.range its.length).map fun i => (its.getD i itm0).id := by
    conv => lhs; rw [its_range its]
    rw [List.map_map]; rfl
  rw [h1, List.filter_map];show ((List.range its.length).filter on).map _ = _
  congr 1
  refine List.filter_congr fun i hi => ?_;have := on_mem hn on (List.mem_range.1 hi);show on i = decide ((its.getD i itm0).id ∈ onIds its on its.length)
  cases ho : on i with
  | true => exact (decide_eq_true (this.2 ho)).symm
  | false => exact (decide_eq_false fun h => by rw [this.1 h] at ho; cases ho).symm
end Go.Proofs.YtneihdahboilnaaGreat
/- Layer 30: conversion of problems, the payments of the example. -/
namespace Go.Proofs.YtneihdahboilnaaGreat
open Go.RowKit

set_option maxRecDepth 100000 in
theorem ZcK (p : Prb) (h : FewP p) : PCalls Tryz.prog 16 [.d (prbD p)] (prbD p) := by
  obtain ⟨g1, g2, g3⟩ := h;refine ZaI Tryz.func16 rfl rfl Tryz.ntmps16 rfl rfl rfl fun F hF => (Zag (Zab (Zam.go (ZaS 1 rfl rfl rfl rfl rfl rfl rfl) (Zam.go (ZaX 2 zl35 rfl rfl rfl rfl) (Zaf (Zag (Zab (Zam.go (ZaX 3 zl35 rfl rfl rfl rfl) ?_))))))));refine Zaf (Zag (Zag (Zci 3 0 0 901 sl32 rfl rfl rfl rfl rfl rfl rfl (Zab (Zaa.go (Zad rfl rfl) (Zaf (Zat (ZaO (α := List Roo) (fun acc => ⟨51, [(1, (.ptr 1 0 0)), (2, (.ptr 2 0 0)), (3, (.ptr 3 0 0)), (4, (.d (intD (acc.length : Int))))], [(901, [.rowD 82 7 (acc.map rooD)]), (1, [prbB2 25 p]), (2, [.blk 35 [nilC, nilC]]), (3, [.blk 35 [.own 901 0 acc.length, nilC]])]⟩) (fun acc => acc = p.ro.take acc.length ∧ acc.length ≤ p.ro.length) (fun acc => p.ro.length - acc.length) ([]) (⟨by simp, Nat.zero_le _⟩) (Zaw hF [901, 1, 2, 3] rfl rfl ⟨rfl, rfl, rfl, rfl, trivial⟩) ?_))))))));rintro acc ⟨hI, hk0⟩;refine Zag ?_;refine Zag (Zab (Zaa.go (Zac rfl rfl) (Zaa.go (Zai rfl ZaL rfl rfl rfl) (Zaa.go (Zaj rfl rfl rfl on22 rfl) (Zaa.go (ZaD rfl Tryz.underlying22 rfl) (Zaa.go (ZaM rfl rfl rfl) (Zaf (ZaK rfl (fun h10 => ?_) (fun h10 => ?_)))))))))
  · have hk1 : acc.length < p.ro.length := ZaP h10;refine Zas (Zag (Zat (Za2 [[], [0], [], [2], [], [2, 3, 4], [2, 3, 4, 5], [2, 3, 4, 5, 6], [2, 3, 4, 5, 6, 7], [], [9], [], [9, 10, 11], [9, 10, 11, 12], [9, 10, 11, 12, 13], [2, 3, 4, 5, 6, 7, 8, 9, 10, 11, 12, 13, 14], [2, 3, 4, 5, 6, 7, 8, 9, 10, 11, 12, 13, 14, 15], [0, 1, 2, 3, 4, 5, 6, 7, 8, 9, 10, 11, 12, 13, 14, 15, 16], [0, 1, 2, 3, 4, 5, 6, 7, 8, 9, 10, 11, 12, 13, 14, 15, 16, 17], [0, 1, 2, 3, 4, 5, 6, 7, 8, 9, 10, 11, 12, 13, 14, 15, 16, 17, 18]] mixed rfl (dws (Zah [3] [] rfl rfl (fun _ => Zae (Zai rfl fi35_0 rfl rfl rfl)) (Zao [13] rfl rfl (fun _ => Zae (Zaj rfl rfl rfl on32 rfl)) (Zah [1] [] rfl rfl (fun _ => Zae (Zai rfl ZaL rfl rfl rfl)) ?_)))))));refine Zao [15] rfl rfl (fun _ => Zae (Zaj rfl rfl rfl on22 rfl)) (Zah [4] [] rfl rfl (fun _ => Zae (Zac rfl rfl)) (Zah [16, 17] [] rfl rfl (fun _ => Zae (Zay (acc.length) rfl rfl (rfl) (getm hk1) Tryz.underlying22 rfl sz67 rfl)) (Zah [18] [] rfl rfl (fun _ => Zae (Zax rfl Zbs rfl rfl rfl)) (Zah [19] [] rfl rfl (fun _ => Zae (ZaE rfl rfl rw56 rfl)) (Zah [20] [] rfl rfl (fun _ => Zae (Zan (ownres_p p.ro[acc.length].r) rfl rfl)) (Zah [1] [] rfl rfl (fun _ => Zae (Zai rfl ZaL rfl rfl rfl)) (Zao [22] rfl rfl (fun _ => Zae (Zaj rfl rfl rfl on22 rfl)) (Zah [4] [] rfl rfl (fun _ => Zae (Zac rfl rfl)) ?_))))))));refine Zah [23, 24] [] rfl rfl (fun _ => Zae (Zay (acc.length) rfl rfl (rfl) (getm hk1) Tryz.underlying22 rfl sz67 rfl)) (Zah [25] [] rfl rfl (fun _ => Zae (Zau rfl ZbO rfl rfl rfl)) (Zah [26] [] rfl rfl (fun _ => Zae (Zaz rfl rfl on2 rfl)) (Zah [21, 27] [] rfl rfl (fun _ => Zae (Za5 zl82 pl82 rfl rfl rfl)) (Zbt [28] [50] [(29, _)] rfl rfl (fun _ => Zba (ZaJ 50 sl32 rfl rfl rfl rfl rfl rfl rfl rfl)) (.inr ⟨29, _, rfl, rfl, rfl, rfl, rfl⟩) rfl rfl rfl rfl rfl (dwc 17 rfl rfl rfl (dw1 18 rfl rfl (Zam.go (Zbd (acc) ([p.ro[acc.length]]) rfl rfl rfl rfl rfl rfl rfl rfl sl32 (by simp only [List.length_singleton]; omega) rfl rfl rfl rfl) (Zaf ⟨rfl, ?_⟩))))))));refine dw1 19 rfl rfl (Zaa.go (Zai rfl fi35_0 rfl rfl rfl) (Zaf ⟨rfl, ?_⟩));refine dw1 20 rfl rfl (Zam.go (ZaF rfl rfl rfl rfl rfl rfl rfl sz32) (Zaf ⟨rfl, ?_⟩));refine dwe (Zab (Zaa.go (Zac rfl rfl) (Zaa.go (ZaG rfl rfl (wrapA acc p.ro[acc.length] (by omega)) rfl) (Zaa.go (Zad rfl rfl) (Zaf ?_)))));exact ⟨acc ++ [p.ro[acc.length]], ⟨tk_next hI hk1, by rw [List.length_append]; show acc.length + 1 ≤ _; omega⟩, by rw [List.length_append]; show p.ro.length - (acc.length + 1) < p.ro.length - acc.length; omega, Zaw hF [901, 1, 2, 3] rfl (rfl) ⟨rfl, rfl, rfl, rfl, trivial⟩⟩
  · refine ZaQ (Zag (Zag ?_));have hacc := tk_end hI (fun h => h10 (by omega));refine ZbE (ys := p.ro.map rooD) 3 0 0 901 rfl rfl rfl (by simp) (by rw [hacc]; exact List.take_of_length_le (by simp)) rfl rfl rfl rfl rfl rfl (Zci 3 0 1 902 sl33 rfl rfl rfl rfl rfl rfl rfl (Zab (Zaa.go (Zad rfl rfl) (Zaf (Zat (ZaO (α := List Itm) (fun acc2 => ⟨51, [(1, (.ptr 1 0 0)), (2, (.ptr 2 0 0)), (3, (.ptr 3 0 0)), (5, (.d (intD (acc2.length : Int))))], [(902, [.rowD 91 6 (acc2.map itmD)]), (1, [prbB2 25 p]), (2, [.blk 35 [nilC, nilC]]), (3, [.blk 35 [.d (.sl none (p.ro.map rooD)), .own 902 0 acc2.length]])]⟩) (fun acc2 => acc2 = p.it.take acc2.length ∧ acc2.length ≤ p.it.length) (fun acc2 => p.it.length - acc2.length) ([]) (⟨by simp, Nat.zero_le _⟩) (Zaw hF [902, 1, 2, 3] rfl rfl ⟨rfl, rfl, rfl, rfl, trivial⟩) ?_))))));rintro acc2 ⟨hJ, hk2⟩;refine Zag ?_;refine Zag (Zab (Zaa.go (Zac rfl rfl) (Zaa.go (Zai rfl ZaU rfl rfl rfl) (Zaa.go (Zaj rfl rfl rfl on23 rfl) (Zaa.go (ZaD rfl Tryz.underlying23 rfl) (Zaa.go (ZaM rfl rfl rfl) (Zaf (ZaK rfl (fun h36 => ?_) (fun h36 => ?_)))))))))
    · have hk3 : acc2.length < p.it.length := ZaP h36;refine Zas ?_;refine Zag (Zat (Za2 [[], [0], [], [2], [], [2, 3, 4], [2, 3, 4, 5], [2, 3, 4, 5, 6], [2, 3, 4, 5, 6, 7], [0, 1, 2, 3, 4, 5, 6, 7, 8], [0, 1, 2, 3, 4, 5, 6, 7, 8, 9], [0, 1, 2, 3, 4, 5, 6, 7, 8, 9, 10]] mixed rfl (dws (Zah [3] [] rfl rfl (fun _ => Zae (Zai rfl fi35_1 rfl rfl rfl)) (Zao [39] rfl rfl (fun _ => Zae (Zaj rfl rfl rfl on33 rfl)) (Zah [1] [] rfl rfl (fun _ => Zae (Zai rfl ZaU rfl rfl rfl)) (Zao [41] rfl rfl (fun _ => Zae (Zaj rfl rfl rfl on23 rfl)) (Zah [5] [] rfl rfl (fun _ => Zae (Zac rfl rfl)) ?_))))))));have hgi := g3 _ (List.getElem_mem hk3);refine Zah [42, 43] [] rfl rfl (fun _ => Zae (Zay (acc2.length) rfl rfl (rfl) (getm hk3) Tryz.underlying23 rfl sz64 rfl)) (Zah [44] [] rfl rfl (fun _ => Zae (ZaE rfl rfl rw64 rfl)) (Zah [45] [] rfl rfl (fun _ => Zae (Zan (ownitem_p p.it[acc2.length] (by omega) (by omega) (by omega)) rfl rfl)) (Zbt [46] [51] [(47, _)] rfl rfl (fun _ => Zba (ZaJ 51 sl33 rfl rfl rfl rfl rfl rfl rfl rfl)) (.inr ⟨47, _, rfl, rfl, rfl, rfl, rfl⟩) rfl rfl rfl rfl rfl (dwc 9 rfl rfl rfl (dw1 10 rfl rfl (Zam.go (Zbd (acc2) ([p.it[acc2.length]]) rfl rfl rfl rfl rfl rfl rfl rfl sl33 (by simp only [List.length_singleton]; omega) rfl rfl rfl rfl) (Zaf ⟨rfl, ?_⟩)))))));refine dw1 11 rfl rfl (Zaa.go (Zai rfl fi35_1 rfl rfl rfl) (Zaf ⟨rfl, ?_⟩));refine dw1 12 rfl rfl (Zam.go (ZaF rfl rfl rfl rfl rfl rfl rfl sz33) (Zaf ⟨rfl, ?_⟩));refine dwe (Zab (Zaa.go (Zac rfl rfl) (Zaa.go (ZaG rfl rfl (wrapA acc2 p.it[acc2.length] (by omega)) rfl) (Zaa.go (Zad rfl rfl) (Zaf ?_)))));exact ⟨acc2 ++ [p.it[acc2.length]], ⟨tk_next hJ hk3, by rw [List.length_append]; show acc2.length + 1 ≤ _; omega⟩, by rw [List.length_append]; show p.it.length - (acc2.length + 1) < p.it.length - acc2.length; omega, Zaw hF [902, 1, 2, 3] rfl (rfl) ⟨rfl, rfl, rfl, rfl, trivial⟩⟩
    · refine ZaQ (Zag ?_);have hacc2 := tk_end hJ (fun h => h36 (by omega));refine ZbE (ys := p.it.map itmD) 3 0 1 902 rfl rfl rfl (by simp) (by rw [hacc2]; exact List.take_of_length_le (by simp)) rfl rfl rfl rfl rfl rfl (Zab (Zaa.go (Zap rfl rfl rw35 rfl rfl rfl) (Zam.go (ZaF rfl rfl rfl rfl rfl rfl rfl sz35) (Zaf (Zav ?_)))));exact ⟨_, [], [], Zaq rfl, rfl, rfl, rfl, rfl⟩
def accQ (a : List UInt8) : Acc := ⟨a, 0, [67, 65, 83, 72]⟩
def payJ (id : Int) (a b : List UInt8) (n : Int) : Itm := ⟨id, 0, id, [⟨accQ a, 0 - n⟩, ⟨accQ b, n⟩], [], []⟩
set_option maxRecDepth 100000 in
theorem pay0_p (id n : Int) (a b : List UInt8) (h0 : 0 ≤ n) (h1 : n ≤ 1000000000000000) : PCalls Tryz.prog 38 [.d (intD id), .d (strD a), .d (strD b), .d (intD n)] (.agg [intD id, intD 0, intD id, .sl none ((payJ id a b n).po.map postD), .sl (some true) [], .sl (some true) []]) := by
  refine ZaI Tryz.func38 rfl rfl Tryz.ntmps38 rfl rfl rfl fun F hF => (Zag (Zab (Zam.go (ZaX 1 zl91 rfl rfl rfl rfl) (Zaf (Zag ?_)))));refine Zab (Zaa.go (Zac rfl rfl) (Zaa.go (Za5 zl49 pl49 rfl rfl rfl) (Zaa.go (Zac rfl rfl) (Zaa.go (Za5 zl49 pl49 rfl rfl rfl) (Zam.go (ZaX 2 zl49 rfl rfl rfl rfl) (Zam.go (ZaX 3 zl49 rfl rfl rfl rfl) (Zam.go (ZaF rfl rfl rfl rfl rfl rfl rfl sz49) (Zam.go (ZaF rfl rfl rfl rfl rfl rfl rfl sz49) ?_))))))));refine Zaf (Zag (Zab (Zaa.go (Zac rfl rfl) (Zaa.go (Zac rfl rfl) (Zaa.go (Zap rfl rfl rw49 rfl rfl rfl) (Zaa.go (Zac rfl rfl) (Zaa.go (st_neg rfl (IntWalk.i64_in _ (by omega)) rfl) (Zaa.go (Za5 zl144 pl144 rfl rfl rfl) ?_))))))));refine Zaa.go (Zap rfl rfl rw49 rfl rfl rfl) (Zaa.go (Zac rfl rfl) (Zaa.go (Za5 zl144 pl144 rfl rfl rfl) (Zam.go (ZaJ 4 sl88 rfl rfl rfl rfl rfl rfl rfl rfl) (ZcF (emb := postD) 24 4 (payJ id a b n).po rfl rfl rfl rfl rfl rfl rfl (Zaa.go (Za5 zl91 pl91 rfl rfl rfl) (Zam.go (ZaF rfl rfl rfl rfl rfl rfl rfl sz91) (Zaf (Zav ?_))))))));exact ⟨_, [], [], Zaq rfl, rfl, rfl, rfl, rfl⟩
theorem pay30_p (id n : Int) (a b : List UInt8) (h0 : 0 ≤ n) (h1 : n ≤ 1000000000000000) : PCalls Tryz.prog 38 [.d (intD id), .d (strD a), .d (strD b), .d (intD n)] (itmD (payJ id a b n)) :=
  (pay0_p id n a b h0 h1).weak fun w O v h => h.aggMono rfl (by simp [D.one]) fun i c c' hc hc' v hv => by
    match i, hc, hc' with
    | 0, hc, hc' => injection hc with hc; injection hc' with hc'; subst hc hc'; exact hv
    | 1, hc, hc' => injection hc with hc; injection hc' with hc'; subst hc hc'; exact hv
    | 2, hc, hc' => injection hc with hc; injection hc' with hc'; subst hc hc'; exact hv
    | 3, hc, hc' => injection hc with hc; injection hc' with hc'; subst hc hc'; exact hv
    | 4, hc, hc' => injection hc with hc; injection hc' with hc'; subst hc hc'; exact hv.anyNil
    | 5, hc, hc' => injection hc with hc; injection hc' with hc'; subst hc hc'; exact hv.anyNil
end Go.Proofs.YtneihdahboilnaaGreat
/- Layer 30: the largest set in memory of its own. -/
namespace Go.Proofs.YtneihdahboilnaaGreat
open Go.RowKit

set_option maxRecDepth 100000 in
set_option maxHeartbeats 1000000 in
theorem explain_own (p : Prb) (hf : FewP p) (hE : prbE p = 0) : ACalls Tryz.prog 21 [.d (prbD p)] [] fun r H' => r = .tup [.own 961 0 (onIds (ordP p) (explS p).2 (ordP p).length).length, .d (.sl none ((explS p).1.map excD)), .d (intD 0)] ∧ H' = [(961, [.rowD 3 1 ((onIds (ordP p) (explS p).2 (ordP p).length).map intD)])] := by
  have hbu := build_ok p hf hE;have hsm := sml_P hf hE;unfold explS;rw [netP_S] at hbu
  obtain ⟨its, hits⟩ : ∃ its, ordP p = its := ⟨_, rfl⟩
  obtain ⟨ros, hros⟩ : ∃ ros, rosS p = ros := ⟨_, rfl⟩
  rw [hits, hros] at hbu hsm ⊢;have hl := hsm.l;refine ZaI Tryz.func21 rfl rfl Tryz.ntmps21 rfl rfl rfl fun F hF => (Zag (Zab ?_));refine Zam.go (ZaS 1 rfl rfl rfl rfl rfl rfl rfl) (Zaa.go (Zad rfl rfl) (Zaa.go (Zad rfl rfl) (Zaa.go (Zad rfl rfl) (Zaf (a_scope (Zag (Zab (Zaa.go (Zap rfl rfl rw35 rfl rfl rfl) ?_))))))));refine o_step (st_callX hbu rfl [40, 50, 51] ⟨rfl, rfl, rfl, trivial⟩ rfl rfl rfl rfl (fun r H' ⟨_, _, _, _, _, _, _, e1, e2, _⟩ => by subst e1 e2; exact ⟨rfl, rfl, rfl⟩) rfl) rfl ?_; rintro _ ⟨r, H', ⟨wb, mv, nb, pb, N, M, bs, rfl, rfl, hR, hN⟩, rfl⟩;refine Zaa.go (Zac rfl rfl) (Zaa.go (ZaA rfl rfl rfl) (Zaa.go (ZaA rfl rfl rfl) (Zaa.go (Zad rfl rfl) (Zaa.go (Zad rfl rfl) (Zaf ?_)))));refine Zag (Zag (Zab (Zaa.go (Zac rfl rfl) (Zaa.go (Za0 rfl rfl rfl) (Zaf (Za1 rfl (rfl) (Zas (Zag ?_))))))));have hids : idsN N = its.map Itm.id := by rw [← ers_ids, hN, S_ids]
  rw [hids];refine Zab (Zaa.go (Zad rfl rfl) (Zaf (Zag (a_label (Zag (Zat (Zca 7 900 sl42 rfl rfl rfl rfl (ZaO (α := (Nat → Bool) × Net × MF × List Exc × Nat) (fun q => ⟨64, [(5, (.d (pD wb 0))), (7, (.own 900 0 q.2.2.2.1.length))], (900, [.rowD 53 9 (q.2.2.2.1.map excD)]) :: HW mv bs (byL nb (its.map Itm.id)) q.2.2.1⟩) (fun q => Rep wb mv nb pb q.2.1 q.2.2.1 ∧ ersN q.2.1 = netS ros its q.1 ∧ cntOn its.length q.1 ≤ q.2.2.2.2 ∧ q.2.2.2.1.length + q.2.2.2.2 ≤ its.length ∧ q.2.2.2.1 ++ (runS ros its q.2.2.2.2 q.1).1 = (runS ros its its.length fun _ => true).1 ∧ (runS ros its q.2.2.2.2 q.1).2 = (runS ros its its.length fun _ => true).2) (fun q => q.2.2.2.2) ((fun _ => true, N, M, [], its.length)) (⟨hR, hN, by show ((List.range its.length).filter _).length ≤ _; exact Nat.le_trans (List.length_filter_le _ _) (by simp), by simp, rfl, rfl⟩) (Zaw hF [900, 40, 50, 51] rfl rfl ⟨rfl, rfl, trivial⟩) ?_))))))));rintro ⟨on, N, M, acc, f⟩ ⟨hR, hN, hc, hal, hr1, hr2⟩;dsimp only at hR hN hc hal hr1 hr2 ⊢;refine Zat (Zag ?_);have hw := W_ers (N := N) (by rw [hN]; exact S_w hsm on);have hsb := S_sumB hsm hN;have hids : idsN N = its.map Itm.id := by rw [← ers_ids, hN, S_ids]
  have hnx := next_c bs hR hw hsb;rw [hids] at hnx;refine Zab (Zaa.go (Zac rfl rfl) (Zam.go (Zby hnx rfl [40, 50, 51] ⟨rfl, rfl, rfl, trivial⟩ rfl rfl rfl rfl rfl rfl rfl rfl rfl) (Zaa.go (Zac rfl rfl) ?_)))
  cases hne : nextN N
  · refine Zaa.go (ZaA rfl rfl rfl) (Zaa.go (ZaA rfl rfl rfl) (Zam.go (ZaX 2 zl53 rfl rfl rfl rfl) (Zam.go (ZaF rfl rfl rfl rfl rfl rfl rfl sz53) (Zaa.go (Zad rfl rfl) (Zaf ?_)))));refine Zag (Zag (Zab (Zaa.go (Zac rfl rfl) (Zaa.go (Zbf rfl rfl) (Zaf (ZaW rfl (rfl) (ZaQ (Zag ?_))))))));have hro : runS ros its f on = ([], on) := run_none (by rw [← hN, next_ers, hne]);rw [hro] at hr1 hr2;rw [List.append_nil] at hr1;dsimp only at hr2;have hwb := hR.w;have hnr : rowAt M N.nh pnT 1 ((List.range N.nd.length).map fun i => ptrD (nb i)) := hR.rs.1 .n;have hnz := ZbM hnr;rw [List.length_range] at hnz;have hNl := S_len hN;refine Zab (Zaa.go (Zad rfl rfl) (Zaf (Zag (Zag (Zab (Zaa.go (Zac rfl rfl) ?_))))));refine Zaa.go (ZaN rfl rfl) (Zaa.go (Zar rfl ZcD rfl rfl rfl) (Zaa.go (Za7 (f := 40) rfl rfl (hwb) rfl on104 rfl) (Zaa.go (Zcu hnz rfl Tryz.underlying104 rfl) (Zaa.go (Zac rfl rfl) (Zaf (Zat (Zca 10 961 sl28 rfl rfl rfl rfl (ZaO (α := Nat × List Int) (fun q => ⟨64, [(7, (.own 900 0 acc.length)), (10, (.own 961 0 q.2.length)), (43, (.d (hdr N.nh N.nd.length))), (44, (.d (intD (N.nd.length : Int)))), (45, (.d (intD (q.1 : Int))))], (961, [.rowD 3 1 (q.2.map intD)]) :: (900, [.rowD 53 9 (acc.map excD)]) :: HW mv bs (byL nb (its.map Itm.id)) M⟩) (fun q => q.1 ≤ N.nd.length ∧ q.2 = onIds its on q.1) (fun q => N.nd.length - q.1) ((0, [])) (⟨Nat.zero_le _, rfl⟩) (Zaw hF [961, 900, 40, 50, 51] rfl rfl ⟨rfl, rfl, rfl, rfl, rfl, trivial⟩) ?_))))))));rintro ⟨k, ids⟩ ⟨hk0, hI⟩;dsimp only at hk0 hI ⊢;refine Zag (Zab (Zaa.go (ZaM rfl rfl rfl) (Zaf (Zag (ZaK rfl (fun h46 => ?_) (fun h46 => ?_))))))
    · have hk1 : k < N.nd.length := ZaP h46;refine Zas (Zag (Zat (Zag ?_)))
      obtain ⟨x, hx⟩ : ∃ x, N.nd[k]? = some x := ⟨_, List.getElem?_eq_getElem hk1⟩
      obtain ⟨hiN, hoi, hit⟩ := S_nd_at hN hx;have hxb := hR.n k x hx;obtain ⟨rb, rc, hre⟩ := ZbK hnr (j := k) (by rw [List.length_range]; exact hk1);have hrow := ZbZ hnr hre;have hidl : ids.length ≤ k := by rw [hI]; exact onIds_len its on k
      refine Zab (Zaa.go (Zb0 hre (k) rfl rfl rfl hk1 Tryz.underlying104 sz103 rfl) (Zaa.go (ZcT (f := 40) (e := k) (off := 0) rfl (by omega) rfl (hrow) ((by rw [List.getElem?_map, List.getElem?_range hk1]; rfl)) rfl on103 rfl) ?_));refine Zaa.go (Zad rfl rfl) ?_;refine Zaf (Zag (Zab (Zaa.go (Zac rfl rfl) (Zaa.go (ZaN rfl rfl) (Zaa.go (Zar rfl ZcW rfl rfl rfl) (Zaa.go (Za7 (f := 40) rfl rfl (hxb) rfl on4 rfl) (Zaf (Zbl rfl (fun h52 => ?_) (fun h52 => ?_)))))))))
      · refine Zab (Zaa.go (Zac rfl rfl) (Zaa.go (Zac rfl rfl) (Zaa.go (ZaN rfl rfl) (Zaa.go (Zar rfl fi112_0 rfl rfl rfl) (Zaa.go (Zar rfl Zb6 rfl rfl rfl) ?_)))));refine Zaa.go (Za7 (f := 40) rfl rfl (hxb) rfl on3 rfl) (Zam.go (ZaJ 3 sl28 rfl rfl rfl rfl rfl rfl rfl rfl) (Zam.go (Zbd (ids) ([x.it.id]) rfl rfl rfl rfl rfl rfl rfl rfl sl28 (by simp only [List.length_singleton]; omega) rfl rfl rfl rfl) (Zaa.go (Zad rfl rfl) (Zaf (Zab (Zaa.go (ZaG rfl rfl (wrapS (k + 1) (by omega)) rfl) (Zaa.go (Zac rfl rfl) (Zaf ?_))))))));exact ⟨(k + 1, _), ⟨by show k + 1 ≤ _; omega, by show _ = onIds its on (k + 1); rw [onIds_snoc, if_pos (by rw [← hoi]; simpa using h52), ← hI, ← hit]⟩, by show N.nd.length - (k + 1) < N.nd.length - k; omega, Zaw hF [961, 900, 40, 50, 51] rfl (rfl) ⟨rfl, rfl, rfl, rfl, rfl, trivial⟩⟩
      · refine Zas (Zab (Zaa.go (ZaG rfl rfl (wrapS (k + 1) (by omega)) rfl) (Zaa.go (Zac rfl rfl) (Zaf ?_))));exact ⟨(k + 1, _), ⟨by show k + 1 ≤ _; omega, by show _ = onIds its on (k + 1); rw [onIds_snoc, if_neg (by rw [← hoi]; simpa using h52), List.append_nil, ← hI]⟩, by show N.nd.length - (k + 1) < N.nd.length - k; omega, Zaw hF [961, 900, 40, 50, 51] rfl (rfl) ⟨rfl, rfl, rfl, rfl, rfl, trivial⟩⟩
    · refine ZaQ (Zag ?_);have hke : k = its.length := by have h := h46; omega
      refine ZbC (emb := excD) 7 900 acc rfl rfl rfl rfl rfl rfl rfl ?_;have hids2 : ids = onIds its (runS ros its its.length fun _ => true).2 its.length := by rw [hI, hke, hr2]
      subst hids2;subst hr1;refine Zab (Zaa.go (Zac rfl rfl) (Zaa.go (Zac rfl rfl) (Zaa.go (Zad rfl rfl) (Zaa.go (Zad rfl rfl) (Zaa.go (Zad rfl rfl) (Zaf (Zav ?_)))))));exact ⟨_, [961], _, Zaq rfl, rfl, rfl, rfl, rfl⟩
  · refine Zaa.go (ZaA rfl rfl rfl) (Zaa.go (ZaA rfl rfl rfl) (Zam.go (ZaX 4 zl53 rfl rfl rfl rfl) (Zam.go (ZaF rfl rfl rfl rfl rfl rfl rfl sz53) (Zaa.go (Zad rfl rfl) (Zaf ?_)))));refine Zag (Zag (Zab (Zaa.go (Zac rfl rfl) (Zaa.go (Zbf rfl rfl) (Zaf (Za1 rfl (rfl) (Zas (Zag ?_))))))))
    rename_i e
    obtain ⟨i, x, hx, hon, hid⟩ := next_on hne;obtain ⟨hiN, hoi, hit⟩ := S_nd_at hN hx;rw [hon] at hoi;have hoi := hoi.symm;have hil : i < (its.map Itm.id).length := by rw [List.length_map]; exact hiN
    have hei : (its.map Itm.id)[i] = e.id := by rw [hid, hit, List.getElem_map, ZaT itm0 hiN]
    have hby := byL_get (nb := nb) hsm.i hil;rw [hei] at hby;have hcn := cntOn_off hiN hoi
    obtain ⟨f2, rfl⟩ : ∃ f2, f = f2 + 1 := ⟨f - 1, by omega⟩
    have hrs : runS ros its (f2 + 1) on = (e :: (runS ros its f2 (setOff on i)).1, (runS ros its f2 (setOff on i)).2) := by rw [run_some (by rw [← hN, next_ers, hne]), ← hei, idx_nodup hsm.i hil]
    have hxm := List.mem_of_getElem? hx;have hrm := remove_c hR hx hsb (hw.e x hxm) (hw.l x hxm).1 (hw.l x hxm).2.1 (fun e he => (hw.p x hxm e he).2) hw.m;refine Za2 [[], [0], [0, 1], [0, 1, 2], [], [4], [0, 1, 2, 3, 4, 5], [0, 1, 2, 3, 4, 5, 6]] mixed rfl (dws (Zah [5] [] rfl rfl (fun _ => Zae (Zac rfl rfl)) (Zah [28] [] rfl rfl (fun _ => Zae (ZaN rfl rfl)) ?_)));refine Zah [29] [] rfl rfl (fun _ => Zae (Zar rfl fi108_2 rfl rfl rfl)) (Zah [30] [40] rfl rfl (fun _ => Zae (Za7 (f := 40) rfl rfl (hR.w) rfl on106 rfl)) (Zah [8] [] rfl rfl (fun _ => Zae (Zai rfl fi53_0 rfl rfl rfl)) (Zah [32] [4] rfl rfl (fun _ => Zae (Zaj rfl rfl rfl on3 rfl)) (dwc 6 rfl rfl rfl (dw1 7 rfl rfl (o_rawMap 31 51 0 rfl rfl (Zaa.go (ZbQ (byL nb (its.map Itm.id)) e.id (.pointer none) (pV (nb i) 0) rfl rfl rfl mt106 kt3 za103 hby rfl) (Zaf ⟨rfl, ?_⟩))))))));refine dw1 8 rfl rfl ?_;refine o_step (st_callX hrm rfl [40] ⟨rfl, trivial⟩ rfl rfl rfl rfl (fun r H' ⟨e1, M', e2, _⟩ => by subst e1 e2; exact ⟨rfl, rfl, rfl⟩) rfl) rfl ?_; rintro _ ⟨r, H', ⟨rfl, M2, rfl, hR2⟩, rfl⟩;refine Zaf ⟨rfl, ?_⟩;refine dwe (Zab (Zaa.go (Zac rfl rfl) (Zaa.go (Zap rfl rfl rw53 rfl rfl rfl) (Zam.go (ZaJ 5 sl42 rfl rfl rfl rfl rfl rfl rfl rfl) (Zam.go (Zbd (acc) ([e]) rfl rfl rfl rfl rfl rfl rfl rfl sl42 (by simp only [List.length_singleton]; omega) rfl rfl rfl rfl) (Zaa.go (Zad rfl rfl) (Zaf ?_)))))));exact ⟨(setOff on i, rmN N i x, M2, acc ++ [e], f2), ⟨hR2, rm_S hsm.r hN hiN hoi hx, by show cntOn its.length (setOff on i) ≤ f2; omega, by show (acc ++ [e]).length + f2 ≤ _; rw [List.length_append]; simp; omega, by show (acc ++ [e]) ++ (runS ros its f2 (setOff on i)).1 = _; rw [List.append_assoc, ← hr1, hrs]; rfl, by show (runS ros its f2 (setOff on i)).2 = _; rw [← hr2, hrs]⟩, by show f2 < f2 + 1; omega, Zaw hF [900, 40, 50, 51] rfl (rfl) ⟨rfl, rfl, trivial⟩⟩
set_option maxRecDepth 100000 in
theorem largest_own (p : Prb) (hf : FewP p) (hE : prbE p = 0) : ACalls Tryz.prog 15 [.d (prbD p)] [] fun r H' => r = .tup [.own 961 0 (largeS p).length, .d (intD 0)] ∧ H' = [(961, [.rowD 3 1 ((largeS p).map intD)])] := by
  have hx := explain_own p hf hE;refine ZaI Tryz.func15 rfl rfl Tryz.ntmps15 rfl rfl rfl fun F hF => (Zag (Zab (Zam.go (ZaS 1 rfl rfl rfl rfl rfl rfl rfl) (Zaa.go (Zad rfl rfl) (Zaa.go (Zad rfl rfl) (Zaf (Zag (Zab ?_))))))));refine Zaa.go (Zap rfl rfl rw35 rfl rfl rfl) (Zam.go (Zby hx rfl [961] ⟨rfl, trivial⟩ rfl rfl rfl rfl rfl rfl rfl rfl rfl) (Zaa.go (Zac rfl rfl) (Zaa.go (Zbi rfl rfl rfl) (Zaa.go (Zbi rfl rfl rfl) (Zaa.go (Zbi rfl rfl rfl) (Zaa.go (Zad rfl rfl) (Zaa.go (Zad rfl rfl) (Zaa.go (Zad rfl rfl) ?_))))))));refine Zaf (Zag (Zab (Zaa.go (Zac rfl rfl) (Zaa.go (Zac rfl rfl) (Zaa.go (Zad rfl rfl) (Zaa.go (Zad rfl rfl) (Zaf (Zav ?_))))))));exact ⟨_, [961], _, Zaq rfl, rfl, rfl, rfl, rfl⟩
theorem flat_ints (g : Nat) (E : TypeId) (l : List Int) : FlatH [(g, [.rowD E 1 (l.map intD)])] := ⟨⟨fun x hx c hc => by
  obtain ⟨y, _, rfl⟩ := List.mem_map.1 hx
  rw [List.mem_singleton.1 hc]; rfl, trivial⟩, trivial⟩
end Go.Proofs.YtneihdahboilnaaGreat
