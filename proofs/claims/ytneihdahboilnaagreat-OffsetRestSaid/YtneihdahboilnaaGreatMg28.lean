/- Layer 30: the largest set and the exclusions hold every item once. Plain laws. -/
import Derived.Test.YtneihdahboilnaaGreatMg27
namespace Go.Proofs.YtneihdahboilnaaGreat
open Go.RowKit

theorem ers_S (ros : List Roo) (its : List Itm) (on : Nat → Bool) : ersN (netS ros its on) = netS ros its on := by
  unfold ersN netS;dsimp only;rw [List.map_map, List.map_map]
  rfl
theorem cntOn_all (n : Nat) : cntOn n (fun _ => true) = n := by
  unfold cntOn;rw [List.filter_eq_self.2 fun _ _ => rfl, List.length_range]
theorem run_len {ros : List Roo} {its : List Itm} (hi : (its.map Itm.id).Nodup) : ∀ (f : Nat) (on : Nat → Bool), (runS ros its f on).1.length + cntOn its.length (runS ros its f on).2 = cntOn its.length on := by
  intro f
  induction f with
  | zero => intro on; show 0 + _ = _; rw [Nat.zero_add]; rfl
  | succ f ih =>
    intro on
    cases hn : nextN (netS ros its on) with
    | none => rw [run_none hn]; show 0 + _ = _; rw [Nat.zero_add]
    | some e =>
      obtain ⟨i, x, hx, hon, hid⟩ := next_on hn;obtain ⟨hiN, hoi, hit⟩ := S_nd_at (ers_S ros its on) hx;rw [hon] at hoi;have hil : i < (its.map Itm.id).length := by rw [List.length_map]; exact hiN
      have hei : (its.map Itm.id)[i] = e.id := by rw [hid, hit, List.getElem_map, ZaK itm0 hiN]
      rw [run_some hn, ← hei, idx_nodup hi hil];have h1 := ih (setOff on i);have h2 := cntOn_off hiN hoi.symm;show (runS ros its f (setOff on i)).1.length + 1 + cntOn its.length (runS ros its f (setOff on i)).2 = cntOn its.length on;omega
theorem large_cnt (p : Prb) : (largeS p).length = cntOn (ordP p).length (explS p).2 := by
  unfold largeS onIds cntOn;rw [List.length_map]
theorem expl_len {p : Prb} (hE : prbE p = 0) : (explS p).1.length + (largeS p).length = p.it.length := by
  have h1 : ordP p = sortO p.it := if_pos hE;have h := run_len (ros := rosS p) (ord_ids hE) (ordP p).length fun _ => true;rw [cntOn_all] at h;rw [large_cnt];unfold explS;rw [h, h1, ZbE]
theorem large_filter {p : Prb} (hE : prbE p = 0) : largeS p = ((ordP p).map Itm.id).filter fun x => decide (x ∈ largeS p) := onIds_filter (ord_ids hE) _
theorem large_ids {p : Prb} (hE : prbE p = 0) {y : Int} (hy : y ∈ largeS p) : y ∈ p.it.map Itm.id := by
  have h1 : ordP p = sortO p.it := if_pos hE;rw [large_filter hE, h1] at hy;exact ((Za9 p.it).map Itm.id).mem_iff.1 (List.mem_filter.1 hy).1
theorem Zcc {p : Prb} (hE : prbE p = 0) : (largeS p).length ≤ p.it.length := by have := expl_len hE; omega
end Go.Proofs.YtneihdahboilnaaGreat
/- Layer 30: feasible sets of items, and what is left after the largest one has settled. Plain laws. -/
namespace Go.Proofs.YtneihdahboilnaaGreat
open Go.RowKit

theorem rooms_nodup {l : List Roo} (h : roomsE l = 0) : (l.map Roo.r).Nodup := by
  have h0 := Zbo.1 h;rw [List.Nodup, List.pairwise_map, List.pairwise_iff_getElem];intro i j hi hj hij e;have := h0 j (List.mem_range.2 hj);unfold rErr at this;rw [ZaK roo0 hj] at this
  split at this
  · contradiction
  · split at this
    · cases this
    · split at this
      · cases this
      · rename_i hn; exact hn (mem_tk hj hij e)
theorem Zb7 {α β : Type} (f : α → β) (q : β → Bool) : ∀ l : List α, (l.map f).filter q = (l.filter fun a => q (f a)).map f
  | [] => rfl
  | a :: l => by
    rw [List.map_cons, List.filter_cons, List.filter_cons, Zb7 f q l]
    split <;> rfl
theorem map_sum_congr {α : Type} {f g : α → Int} : ∀ {l : List α}, (∀ x ∈ l, f x = g x) → (l.map f).sum = (l.map g).sum
  | [], _ => rfl
  | a :: l, h => by
    rw [List.map_cons, List.map_cons, List.sum_cons, List.sum_cons, h a List.mem_cons_self, map_sum_congr fun x hx => h x (List.mem_cons_of_mem _ hx)]
theorem roomsE_ok {l : List Roo} (h : ∀ o ∈ l, validE o.r = 0 ∧ -4 * Mx ≤ o.n ∧ o.n ≤ 4 * Mx) (hn : (l.map Roo.r).Nodup) : roomsE l = 0 := by
  unfold roomsE;refine Zbo.2 fun k hk => ?_;have hk' := List.mem_range.1 hk;have h1 := h _ (List.getElem_mem hk');unfold rErr;rw [ZaK roo0 hk', if_neg (fun h => h h1.1), if_neg (fun h => h h1.2), if_neg];intro hm;rw [List.map_take] at hm;obtain ⟨j, hj, e⟩ := List.mem_take_iff_getElem.1 hm;rw [List.Nodup, List.pairwise_iff_getElem] at hn;have hj2 : j < k := by omega
  refine hn j k (by rw [List.length_map]; omega) (by rw [List.length_map]; exact hk') hj2 ?_;rw [e, List.getElem_map]
structure Chg (R : Int → Int → Prop) (l Y : List Roo) : Prop where
  len : Y.length = l.length
  at_ : ∀ (j : Nat) x y, l[j]? = some x → Y[j]? = some y → y.r = x.r ∧ -4 * Mx ≤ y.n ∧ y.n ≤ 4 * Mx ∧ R x.n y.n
theorem Chg.set {R : Int → Int → Prop} {l Y : List Roo} (h : Chg R l Y) {k : Nat} (hk : k < Y.length) {n : Int} (h1 : -4 * Mx ≤ n ∧ n ≤ 4 * Mx) (h2 : ∀ x, R x Y[k].n → R x n) : Chg R l (Y.set k ⟨Y[k].r, n⟩) :=
  ⟨by rw [List.length_set]; exact h.len, fun j x y hx hy => by
    rw [List.getElem?_set] at hy
    split at hy
    · rename_i e; subst e
      first | (rw [if_pos hk] at hy; injection hy with hy; subst hy) | (injection hy with hy; subst hy)
      have := h.at_ k x _ hx (List.getElem?_eq_getElem hk);exact ⟨this.1, h1.1, h1.2, h2 _ this.2.2.2⟩
    · exact h.at_ j x y hx hy⟩
theorem Chg.map {R : Int → Int → Prop} {l Y : List Roo} (h : Chg R l Y) : Y.map Roo.r = l.map Roo.r := by
  refine List.ext_getElem (by rw [List.length_map, List.length_map, h.len]) fun j h1 h2 => ?_;rw [List.length_map] at h1 h2;rw [List.getElem_map, List.getElem_map];exact (h.at_ j _ _ (List.getElem?_eq_getElem h2) (List.getElem?_eq_getElem h1)).1
theorem Chg.mem {R : Int → Int → Prop} {l Y : List Roo} (h : Chg R l Y) : ∀ y ∈ Y, ∃ x ∈ l, y.r = x.r ∧ -4 * Mx ≤ y.n ∧ y.n ≤ 4 * Mx ∧ R x.n y.n := fun y hy => by
  obtain ⟨j, hj, rfl⟩ := List.mem_iff_getElem.1 hy;have hj' : j < l.length := by rw [← h.len]; exact hj
  exact ⟨l[j], List.getElem_mem hj', h.at_ j _ _ (List.getElem?_eq_getElem hj') (List.getElem?_eq_getElem hj)⟩
theorem mx_v : Mx = 1000000000000000 := rfl
theorem Chg.b {R : Int → Int → Prop} {l Y : List Roo} (h : Chg R l Y) {k : Nat} (hk : k < Y.length) : -4000000000000000 ≤ Y[k].n ∧ Y[k].n ≤ 4000000000000000 := by
  obtain ⟨x, _, _, h2, h3, _⟩ := h.mem _ (List.getElem_mem hk);rw [mx_v] at h2 h3;exact ⟨by omega, by omega⟩
theorem nodup_take {l : List Int} (hn : l.Nodup) {j : Nat} (hj : j < l.length) : l[j] ∉ l.take j := fun h => by
  obtain ⟨i, hi, e⟩ := List.mem_take_iff_getElem.1 h;rw [List.Nodup, List.pairwise_iff_getElem] at hn;exact hn i j (by omega) hj (by omega) e
theorem aft_iff {i : Itm} : aftE i = 0 ↔ (∀ x ∈ i.af, (0 ≤ x ∧ x ≤ 1000000000) ∧ x ≠ i.id) ∧ i.af.Nodup := by
  unfold aftE;rw [Zbo]
  constructor
  · intro h
    have key : ∀ k (hk : k < i.af.length), (0 ≤ i.af[k] ∧ i.af[k] ≤ 1000000000) ∧ i.af[k] ≠ i.id ∧ i.af[k] ∉ i.af.take k := fun k hk => by
      have := h k (List.mem_range.2 hk);unfold aErr at this;rw [ZaK 0 hk] at this
      split at this
      · cases this
      · rename_i h1
        split at this
        · cases this
        · rename_i h2
          exact ⟨Decidable.not_not.1 h1, fun e => h2 (.inl e), fun e => h2 (.inr e)⟩
    refine ⟨fun x hx => ?_, ?_⟩
    · obtain ⟨k, hk, rfl⟩ := List.mem_iff_getElem.1 hx;exact ⟨(key k hk).1, (key k hk).2.1⟩
    · rw [List.Nodup, List.pairwise_iff_getElem];intro a b ha hb hab e;exact (key b hb).2.2 (List.mem_take_iff_getElem.2 ⟨a, by omega, e⟩)
  · rintro ⟨h1, h2⟩ k hk;have hk' := List.mem_range.1 hk;have h3 := h1 _ (List.getElem_mem hk');unfold aErr;rw [ZaK 0 hk', if_neg (fun h => h h3.1), if_neg];rintro (h | h)
    · exact h3.2 h
    · exact nodup_take h2 hk' h
theorem checkE_rest {i : Itm} (l : List Int) (h : checkE i = 0) : checkE (restI l i) = 0 := by
  obtain ⟨h1, h2, h3, h4, h5, h6, h7, h8, h9⟩ := check_ok h
  have ha : aftE (restI l i) = 0 := by
    obtain ⟨a1, a2⟩ := aft_iff.1 h7;exact aft_iff.2 ⟨fun x hx => a1 x (List.mem_filter.1 hx).1, List.Nodup.sublist List.filter_sublist a2⟩
  have hl : (kept l i.af).length ≤ i.af.length := List.length_filter_le _ _;have b1 := h1.po;have b2 := h1.pa;have b3 := h1.af;unfold checkE;rw [if_neg (by show ¬ (¬ (0 ≤ i.id ∧ i.id ≤ 1000000000) ∨ ¬ (0 ≤ i.sq ∧ i.sq ≤ 1000000000) ∨ ¬ (0 ≤ i.pr ∧ i.pr ≤ 2)); omega), if_neg (by show ¬ (256 < i.po.length ∨ 256 < i.pa.length ∨ 256 < (kept l i.af).length); omega)];show fst0 [postE i, payE i, aftE (restI l i), balE i, bndE i] = 0;rw [h5, h6, ha, h8, h9]; rfl
theorem items_ok {l : List Itm} (h1 : ∀ i ∈ l, checkE i = 0) (h2 : (l.map Itm.id).Nodup) (h3 : (l.map Itm.sq).Nodup) : itemsE l = 0 := by
  unfold itemsE;refine Zbo.2 fun k hk => ?_;have hk' := List.mem_range.1 hk;have hc := h1 _ (List.getElem_mem hk');unfold iErr;rw [ZaK itm0 hk', if_neg (fun h => h hc), if_neg]
  have key : ∀ f : Itm → Int, (l.map f).Nodup → f l[k] ∉ (l.take k).map f := fun f hn hm => by
    rw [List.map_take] at hm;have hk2 : k < (l.map f).length := by rw [List.length_map]; exact hk'
    have := nodup_take hn hk2;rw [List.getElem_map] at this;exact this hm
  rintro (h | h)
  · exact key _ h2 h
  · exact key _ h3 h
theorem after_ok {l : List Itm} (h : ∀ i ∈ l, ∀ x ∈ i.af, x ∈ l.map Itm.id) : afterE l = 0 := by
  unfold afterE;refine Zbo.2 fun i hi => ?_;unfold fErr;rw [if_neg];intro ha;obtain ⟨x, hx, h1⟩ := List.any_eq_true.1 ha;unfold notIn at h1;rw [decide_eq_true (h i hi x hx)] at h1
  cases h1
theorem after_in {l : List Itm} (h : afterE l = 0) : ∀ i ∈ l, ∀ x ∈ i.af, x ∈ l.map Itm.id := fun i hi x hx => by
  have := Zbo.1 h i hi;unfold fErr at this
  split at this
  · cases this
  · rename_i hn
    refine Classical.byContradiction fun hc => hn (List.any_eq_true.2 ⟨x, hx, ?_⟩);unfold notIn; rw [decide_eq_false hc]; rfl
theorem mem_setlI {l : List Int} {its : List Itm} {j : Itm} : j ∈ setlI l its ↔ ∃ i ∈ its, i.id ∉ l ∧ restI l i = j := by
  unfold setlI;rw [List.mem_map]
  constructor
  · rintro ⟨i, hi, e⟩;obtain ⟨h1, h2⟩ := List.mem_filter.1 hi;exact ⟨i, h1, by simpa [inB] using h2, e⟩
  · rintro ⟨i, h1, h2, e⟩;exact ⟨i, List.mem_filter.2 ⟨h1, by simpa [inB] using h2⟩, e⟩
theorem setlI_ids (l : List Int) (its : List Itm) : (setlI l its).map Itm.id = (its.map Itm.id).filter fun x => !decide (x ∈ l) := by
  unfold setlI;rw [List.map_map, Zb7]; rfl
theorem setlI_sqs (l : List Int) (its : List Itm) : (setlI l its).map Itm.sq = (its.filter fun i => !inB l i).map Itm.sq := by
  unfold setlI;rw [List.map_map]; rfl
theorem Zcq {l : List Int} {its : List Itm} {x : Int} : x ∈ (setlI l its).map Itm.id ↔ x ∈ its.map Itm.id ∧ x ∉ l := by
  rw [setlI_ids, List.mem_filter]; simp
theorem setl_ok {p : Prb} {l : List Int} (he : setlE p l = 0) : choE p l = 0 ∧ setlP p l = ⟨totR p l, setlI l p.it⟩ ∧ ∀ x ∈ totR p l, -4000000000000000 ≤ x.n ∧ x.n ≤ 4000000000000000 := by
  have h0 : choE p l = 0 := Classical.byContradiction fun hn => by
    unfold setlE at he; rw [if_pos hn] at he; exact hn he
  refine ⟨h0, if_pos he, fun x hx => ?_⟩;unfold setlE at he;rw [if_neg (fun h => h h0)] at he
  split at he
  · cases he
  · rename_i hn
    refine Decidable.byContradiction fun hc => hn (List.any_eq_true.2 ⟨x, hx, ?_⟩);unfold outR; rw [decide_eq_false hc]; rfl
theorem setl_prb {p : Prb} {l : List Int} (hp : prbE p = 0) (he : setlE p l = 0) : prbE (setlP p l) = 0 := by
  obtain ⟨h0, h1, h2⟩ := setl_ok he;obtain ⟨hr, hi, ha⟩ := Zbn hp
  have hn : ¬ (4096 < p.it.length ∨ 16384 < p.ro.length) := fun h => by
    unfold prbE at hp; rw [if_pos h] at hp; cases hp
  rw [h1];have hrl : (totR p l).length = p.ro.length := List.length_map _;have hil := setlI_len l p.it;unfold prbE;rw [if_neg (by show ¬ (4096 < (setlI l p.it).length ∨ 16384 < (totR p l).length); omega)];show fst0 [roomsE (totR p l), itemsE (setlI l p.it), afterE (setlI l p.it)] = 0
  have e1 : roomsE (totR p l) = 0 := by
    refine roomsE_ok (fun o ho => ?_) ?_
    · have h3 := h2 o ho;obtain ⟨x, hx, rfl⟩ := List.mem_map.1 ho;refine ⟨rooms_valid hr x hx, ?_, ?_⟩
      · have : Mx = 1000000000000000 := rfl;rw [this]; omega
      · have : Mx = 1000000000000000 := rfl;rw [this]; omega
    · have : (totR p l).map Roo.r = p.ro.map Roo.r := by unfold totR; rw [List.map_map]; rfl
      rw [this]; exact rooms_nodup hr
  have e2 : itemsE (setlI l p.it) = 0 := by
    refine items_ok (fun j hj => ?_) ?_ ?_
    · obtain ⟨i, hi', _, rfl⟩ := mem_setlI.1 hj;exact checkE_rest l (Zcn hi i hi')
    · rw [setlI_ids]; exact List.Nodup.sublist List.filter_sublist (Zcm hi)
    · rw [setlI_sqs]; exact List.Nodup.sublist (List.filter_sublist.map _) (items_nodup hi)
  have e3 : afterE (setlI l p.it) = 0 := by
    refine after_ok fun j hj x hx => ?_;obtain ⟨i, hi', _, rfl⟩ := mem_setlI.1 hj;obtain ⟨h3, h4⟩ := List.mem_filter.1 hx;exact Zcq.2 ⟨after_in ha i hi' x h3, by simpa [inS] using h4⟩
  rw [e1, e2, e3]; rfl
def sP (p : Prb) (l : List Int) : Prb := ⟨totR p l, setlI l p.it⟩
theorem itmOf_sP {p : Prb} {l : List Int} (hp : prbE p = 0) {y : Int} (hy : y ∈ (sP p l).it.map Itm.id) : itmOf (sP p l) y = restI l (itmOf p y) := by
  have hnd := Zcm (Zbn hp).2.1;obtain ⟨hk, _, e1, e2⟩ := ZbO hy
  have hm : itmOf (sP p l) y ∈ setlI l p.it := by
    rw [e1]; exact List.getElem_mem hk
  obtain ⟨i, hi, _, e3⟩ := mem_setlI.1 hm;have hy2 : y ∈ p.it.map Itm.id := (Zcq.1 hy).1;obtain ⟨hk2, _, e4, e5⟩ := ZbO hy2;have hid : i.id = y := by rw [← e2, ← e3]; rfl
  have : i = itmOf p y := ids_inj hnd hi (by rw [e4]; exact List.getElem_mem hk2) (by rw [hid, e5]);rw [← e3, this]
theorem dltE_rest {i : Itm} (l : List Int) (h : checkE i = 0) (r : Rsc) : dltE (restI l i) r = dltE i r := by
  unfold dltE;rw [checkE_rest l h, h]; rfl
theorem sort_sP {p : Prb} (l : List Int) (hp : prbE p = 0) : sortO (sP p l).it = ((sortO p.it).filter fun i => !inB l i).map (restI l) := by
  have hi := (Zbn hp).2.1;refine (ord_one ?_ ?_ ?_).symm
  · show ((setlI l p.it).map Itm.sq).Nodup;rw [setlI_sqs]; exact List.Nodup.sublist (List.filter_sublist.map _) (items_nodup hi)
  · exact ((Za9 p.it).filter _).map _
  · rw [List.pairwise_map];exact (List.Pairwise.sublist List.filter_sublist (sortO_sorted p.it)).imp fun h => h
theorem qIds_sP {p : Prb} (l : List Int) (hp : prbE p = 0) (r : Rsc) : qIds (sortO (sP p l).it) r = (qIds (sortO p.it) r).filter fun x => !decide (x ∈ l) := by
  rw [sort_sP l hp];unfold qIds;rw [Zb7, List.map_map, Zb7, List.filter_filter, List.filter_filter];have hid : (Itm.id ∘ restI l) = Itm.id := rfl;rw [hid]
  congr 1
  refine List.filter_congr fun i hi => ?_;have hm : i ∈ p.it := (Za9 p.it).mem_iff.1 hi;rw [dltE_rest l (Zcn (Zbn hp).2.1 i hm)];exact Bool.and_comm _ _
def befQ (i : Int) (q : List Int) : List Int := if i ∈ q then q.takeWhile fun a => decide (a ≠ i) else []
theorem blkR_none {its : List Itm} {l : List Int} {id : Int} {x : Roo} : blkR its l id x = none ↔ ∀ a ∈ befQ id (qIds its x.r), a ∈ l := by
  unfold blkR befQ
  split
  · rw [Option.map_eq_none_iff, List.find?_eq_none];exact ⟨fun h a ha => by have := h a ha; simpa using this, fun h a ha => by have := h a ha; simpa using this⟩
  · simp
theorem blk_iff {p : Prb} {l : List Int} {id : Int} : blockR p l id = none ↔ (∀ x ∈ p.ro, ∀ a ∈ befQ id (qIds (sortO p.it) x.r), a ∈ l) ∧ ∀ a ∈ (itmOf p id).af, a ∈ l := by
  have h1 : (rosS p).findSome? (blkR (sortO p.it) l id) = none ↔ ∀ x ∈ p.ro, ∀ a ∈ befQ id (qIds (sortO p.it) x.r), a ∈ l := by
    rw [List.findSome?_eq_none_iff];exact ⟨fun h x hx => blkR_none.1 (h x ((ZbY p).mem_iff.2 hx)), fun h x hx => blkR_none.2 (h x ((ZbY p).mem_iff.1 hx))⟩
  have h2 : ((itmOf p id).af.find? fun a => decide (a ∉ l)) = none ↔ ∀ a ∈ (itmOf p id).af, a ∈ l := by
    rw [List.find?_eq_none];exact ⟨fun h a ha => by have := h a ha; simpa using this, fun h a ha => by have := h a ha; simpa using this⟩
  unfold blockR
  cases h3 : (rosS p).findSome? (blkR (sortO p.it) l id) with
  | some e =>
    constructor
    · intro h; cases h
    · intro h; have := h1.2 h.1; rw [h3] at this; cases this
  | none => 
    show (Option.map _ _) = none ↔ _;rw [Option.map_eq_none_iff, h2];exact ⟨fun h => ⟨h1.1 h3, h⟩, fun h => h.2⟩
theorem feas_iff {p : Prb} {l : List Int} : feasR p l ↔ (∀ id ∈ l, (∀ x ∈ p.ro, ∀ a ∈ befQ id (qIds (sortO p.it) x.r), a ∈ l) ∧ ∀ a ∈ (itmOf p id).af, a ∈ l) ∧ ∀ x ∈ p.ro, 0 ≤ overL p.it x l := by
  unfold feasR;exact ⟨fun h => ⟨fun id hid => blk_iff.1 (h.1 id hid), fun x hx => by have := h.2 x hx; omega⟩, fun h => ⟨fun id hid => blk_iff.2 (h.1 id hid), fun x hx => by have := h.2 x hx; omega⟩⟩
theorem bef_in {i m : Int} {q : List Int} : m ∈ befQ i q → i ∈ q := fun h => by
  unfold befQ at h
  split at h
  · assumption
  · cases h
theorem bef_filter {i m : Int} {q : List Int} {f : Int → Bool} (h : m ∈ befQ i q) (hi : f i = true) (hm : f m = true) : m ∈ befQ i (q.filter f) := by
  have hq := bef_in h;unfold befQ at h ⊢;rw [if_pos hq] at h;rw [if_pos (List.mem_filter.2 ⟨hq, hi⟩)]
  clear hq
  induction q with
  | nil => cases h
  | cons a q ih =>
    rw [List.takeWhile_cons] at h
    split at h
    · rename_i ha
      rw [List.filter_cons]
      by_cases hfa : f a = true
      · rw [if_pos hfa, List.takeWhile_cons, if_pos ha];rcases List.mem_cons.1 h with e | h
        · rw [e]; exact List.mem_cons_self
        · exact List.mem_cons_of_mem _ (ih h)
      · rw [if_neg hfa];rcases List.mem_cons.1 h with e | h
        · exact absurd (e ▸ hm) hfa
        · exact ih h
    · cases h
theorem sum_disj (u S : List Int) (hd : ∀ x ∈ S, x ∉ u) (f : Itm → Int) : ∀ its : List Itm, ((its.filter fun i => decide (i.id ∈ u ++ S)).map f).sum = ((its.filter fun i => decide (i.id ∈ u)).map f).sum + ((its.filter fun i => !decide (i.id ∈ u) && decide (i.id ∈ S)).map f).sum
  | [] => rfl
  | a :: l => by
    have ih := sum_disj u S hd f l;rw [List.filter_cons, List.filter_cons, List.filter_cons]
    by_cases h1 : a.id ∈ u
    · rw [decide_eq_true (show a.id ∈ u ++ S from List.mem_append.2 (.inl h1)), decide_eq_true h1];simp only [if_true, Bool.not_true, Bool.false_and, Bool.false_eq_true, if_false, List.map_cons, List.sum_cons];omega
    · by_cases h2 : a.id ∈ S
      · rw [decide_eq_true (show a.id ∈ u ++ S from List.mem_append.2 (.inr h2)), decide_eq_false h1, decide_eq_true h2];simp only [if_true, Bool.not_false, Bool.true_and, Bool.false_eq_true, if_false, List.map_cons, List.sum_cons];omega
      · rw [decide_eq_false (show ¬ a.id ∈ u ++ S from fun h => (List.mem_append.1 h).elim h1 h2), decide_eq_false h1, decide_eq_false h2];simp only [Bool.not_false, Bool.and_false, Bool.false_eq_true, if_false];exact ih
theorem dltE_ctr {p : Prb} (hp : prbE p = 0) {i : Itm} (hi : i ∈ p.it) {r : Rsc} (hr : validE r = 0) : dltE i r = ctrSum (ctr i) r := by
  unfold dltE;rw [if_pos ⟨Zcn (Zbn hp).2.1 i hi, hr⟩]
theorem feas_rest {p : Prb} {u S : List Int} (hp : prbE p = 0) (hu : feasR p u) (hS : ∀ x ∈ S, x ∈ (sP p u).it.map Itm.id) (h : feasR (sP p u) S) : feasR p (u ++ S) := by
  have hS2 : ∀ x ∈ S, x ∈ p.it.map Itm.id ∧ x ∉ u := fun x hx => Zcq.1 (hS x hx);have hro : (sP p u).ro = totR p u := rfl;have hit : (sP p u).it = setlI u p.it := rfl;obtain ⟨u1, u2⟩ := feas_iff.1 hu;obtain ⟨s1, s2⟩ := feas_iff.1 h;refine feas_iff.2 ⟨fun id hid => ?_, fun x hx => ?_⟩
  · rcases List.mem_append.1 hid with hid | hid
    · exact ⟨fun x hx a ha => List.mem_append.2 (.inl ((u1 id hid).1 x hx a ha)), fun a ha => List.mem_append.2 (.inl ((u1 id hid).2 a ha))⟩
    · refine ⟨fun x hx a ha => ?_, fun a ha => ?_⟩
      · by_cases hau : a ∈ u
        · exact List.mem_append.2 (.inl hau)
        · refine List.mem_append.2 (.inr ((s1 id hid).1 ⟨x.r, x.n + totQ (p.it.filter (inB u)) x.r⟩ (by rw [hro]; exact List.mem_map.2 ⟨x, hx, rfl⟩) a ?_));rw [qIds_sP u hp];exact bef_filter ha (by simpa using (hS2 id hid).2) (by simpa using hau)
      · by_cases hau : a ∈ u
        · exact List.mem_append.2 (.inl hau)
        · refine List.mem_append.2 (.inr ((s1 id hid).2 a ?_));rw [itmOf_sP hp (hS id hid)];exact List.mem_filter.2 ⟨ha, by simpa [inS] using hau⟩
  · have hv := rooms_valid (Zbn hp).1 x hx;have k0 := u2 x hx;have k1 := s2 ⟨x.r, x.n + totQ (p.it.filter (inB u)) x.r⟩ (by rw [hro]; exact List.mem_map.2 ⟨x, hx, rfl⟩)
    have e1 : totQ (p.it.filter (inB u)) x.r = ((p.it.filter fun i => decide (i.id ∈ u)).map fun i => dltE i x.r).sum := by
      unfold totQ;refine map_sum_congr fun i hi => ?_;exact (dltE_ctr hp (List.mem_filter.1 hi).1 hv).symm
    have e2 : (((sP p u).it.filter fun i => decide (i.id ∈ S)).map fun i => dltE i x.r).sum = ((p.it.filter fun i => !decide (i.id ∈ u) && decide (i.id ∈ S)).map fun i => dltE i x.r).sum := by
      rw [hit];unfold setlI;rw [Zb7, List.filter_filter, List.map_map];have e3 : p.it.filter (fun a => decide ((restI u a).id ∈ S) && !inB u a) = p.it.filter fun i => !decide (i.id ∈ u) && decide (i.id ∈ S) := List.filter_congr fun i _ => Bool.and_comm _ _;rw [e3];refine map_sum_congr fun i hi => ?_;exact dltE_rest u (Zcn (Zbn hp).2.1 i (List.mem_filter.1 hi).1) _
    unfold overL at k0 k1 ⊢;rw [sum_disj u S fun y hy => (hS2 y hy).2];dsimp only at k1;rw [e1, e2] at k1;omega
theorem setl_few {p : Prb} {l : List Int} (hF : FewP p) : FewP (setlP p l) := by
  unfold setlP
  split
  · refine ⟨?_, ?_, fun x hx => ?_⟩
    · have := setlI_len l p.it;have h := hF.i;show (setlI l p.it).length ≤ 30; omega
    · show (totR p l).length ≤ 100;unfold totR; rw [List.length_map]; exact hF.r
    · obtain ⟨i, hi, _, rfl⟩ := mem_setlI.1 hx;have h := hF.x i hi;exact ⟨h.1, h.2.1, Nat.le_trans (List.length_filter_le _ _) h.2.2⟩
  · exact ⟨by simp, by simp, by simp⟩
theorem rest_nil {p : Prb} (hp : prbE p = 0) (hF : FewP p) (he : setlE p (largeS p) = 0) : largeS (setlP p (largeS p)) = [] := by
  have hq := setl_prb hp he;have hFq := setl_few (l := largeS p) hF;have h1 : setlP p (largeS p) = sP p (largeS p) := (setl_ok he).2.1;rw [h1] at hq hFq ⊢;have hS : ∀ x ∈ largeS (sP p (largeS p)), x ∈ (sP p (largeS p)).it.map Itm.id := fun x hx => large_ids hq hx;have hS2 : ∀ x ∈ largeS (sP p (largeS p)), x ∈ p.it.map Itm.id ∧ x ∉ largeS p := fun x hx => Zcq.1 (hS x hx);have h := feas_rest hp (large_feas hp hF) hS (large_feas hq hFq);refine List.eq_nil_iff_forall_not_mem.2 fun y hy => ?_
  have h3 := large_max hp hF h (fun z hz => by
    rcases List.mem_append.1 hz with hz | hz
    · exact large_ids hp hz
    · exact (hS2 z hz).1) y (List.mem_append.2 (.inr hy))
  exact (hS2 y hy).2 h3
end Go.Proofs.YtneihdahboilnaaGreat
