/- Layer 30: feasible sets of items, and what is left after the largest one has settled. Plain laws. -/
import Derived.Test.YtneihdahboilnaaGreatMg27
namespace Go.Proofs.YtneihdahboilnaaGreat
open Go.RowKit

structure Chg (R : Int → Int → Prop) (l Y : List Roo) : Prop where
  len : Y.length = l.length
  at_ : ∀ (j : Nat) x y, l[j]? = some x → Y[j]? = some y → y.r = x.r ∧ -4 * Mx ≤ y.n ∧ y.n ≤ 4 * Mx ∧ R x.n y.n
theorem Chg.start {R : Int → Int → Prop} {l : List Roo} (h : ∀ o ∈ l, -4 * Mx ≤ o.n ∧ o.n ≤ 4 * Mx ∧ R o.n o.n) : Chg R l l :=
  ⟨rfl, fun j x y hx hy => by
    rw [hx] at hy; injection hy with hy; subst hy
    have := h x (List.mem_of_getElem? hx)
    exact ⟨rfl, this⟩⟩
theorem Chg.set {R : Int → Int → Prop} {l Y : List Roo} (h : Chg R l Y) {k : Nat} (hk : k < Y.length) {n : Int} (h1 : -4 * Mx ≤ n ∧ n ≤ 4 * Mx) (h2 : ∀ x, R x Y[k].n → R x n) : Chg R l (Y.set k ⟨Y[k].r, n⟩) :=
  ⟨by rw [List.length_set]; exact h.len, fun j x y hx hy => by
    rw [List.getElem?_set] at hy
    split at hy
    · rename_i e; subst e
      first | (rw [if_pos hk] at hy; injection hy with hy; subst hy) | (injection hy with hy; subst hy)
      have := h.at_ k x _ hx (List.getElem?_eq_getElem hk);exact ⟨this.1, h1.1, h1.2, h2 _ this.2.2.2⟩
    · exact h.at_ j x y hx hy⟩
theorem Chg.map {R : Int → Int → Prop} {l Y : List Roo} (h : Chg R l Y) : Y.map Roo.r = l.map Roo.r := by
  refine List.ext_getElem (by rw [List.length_map, List.length_map, h.len]) fun j h1 h2 => ?_;rw [List.length_map] at h1 h2;rw [List.getElem_map, List.getElem_map];exact (h.at_ j _ _ (List.getElem?_eq_getElem h2) (List.getElem?_eq_getElem h1)).1
theorem Chg.mem {R : Int → Int → Prop} {l Y : List Roo} (h : Chg R l Y) : ∀ y ∈ Y, ∃ x ∈ l, y.r = x.r ∧ -4 * Mx ≤ y.n ∧ y.n ≤ 4 * Mx ∧ R x.n y.n := fun y hy => by
  obtain ⟨j, hj, rfl⟩ := List.mem_iff_getElem.1 hy;have hj' : j < l.length := by rw [← h.len]; exact hj
  exact ⟨l[j], List.getElem_mem hj', h.at_ j _ _ (List.getElem?_eq_getElem hj') (List.getElem?_eq_getElem hj)⟩
theorem mx_v : Mx = 1000000000000000 := rfl
theorem Chg.b {R : Int → Int → Prop} {l Y : List Roo} (h : Chg R l Y) {k : Nat} (hk : k < Y.length) : -4000000000000000 ≤ Y[k].n ∧ Y[k].n ≤ 4000000000000000 := by
  obtain ⟨x, _, _, h2, h3, _⟩ := h.mem _ (List.getElem_mem hk);rw [mx_v] at h2 h3;exact ⟨by omega, by omega⟩
def befQ (i : Int) (q : List Int) : List Int := if i ∈ q then q.takeWhile fun a => decide (a ≠ i) else []
theorem blkR_none {its : List Itm} {l : List Int} {id : Int} {x : Roo} : blkR its l id x = none ↔ ∀ a ∈ befQ id (qIds its x.r), a ∈ l := by
  unfold blkR befQ
  split
  · rw [Option.map_eq_none_iff, List.find?_eq_none];exact ⟨fun h a ha => by have := h a ha; simpa using this, fun h a ha => by have := h a ha; simpa using this⟩
  · simp
theorem blk_iff {p : Prb} {l : List Int} {id : Int} : blockR p l id = none ↔ (∀ x ∈ p.ro, ∀ a ∈ befQ id (qIds (sortO p.it) x.r), a ∈ l) ∧ ∀ a ∈ (itmOf p id).af, a ∈ l := by
  have h1 : (rosS p).findSome? (blkR (sortO p.it) l id) = none ↔ ∀ x ∈ p.ro, ∀ a ∈ befQ id (qIds (sortO p.it) x.r), a ∈ l := by
    rw [List.findSome?_eq_none_iff];exact ⟨fun h x hx => blkR_none.1 (h x ((ZcE p).mem_iff.2 hx)), fun h x hx => blkR_none.2 (h x ((ZcE p).mem_iff.1 hx))⟩
  have h2 : ((itmOf p id).af.find? fun a => decide (a ∉ l)) = none ↔ ∀ a ∈ (itmOf p id).af, a ∈ l := by
    rw [List.find?_eq_none];exact ⟨fun h a ha => by have := h a ha; simpa using this, fun h a ha => by have := h a ha; simpa using this⟩
  unfold blockR
  cases h3 : (rosS p).findSome? (blkR (sortO p.it) l id) with
  | some e =>
    constructor
    · intro h; cases h
    · intro h; have := h1.2 h.1; rw [h3] at this; cases this
  | none => 
    show (Option.map _ _) = none ↔ _;rw [Option.map_eq_none_iff, h2];exact ⟨fun h => ⟨h1.1 h3, h⟩, fun h => h.2⟩
theorem Zcq {p : Prb} {l : List Int} : feasR p l ↔ (∀ id ∈ l, (∀ x ∈ p.ro, ∀ a ∈ befQ id (qIds (sortO p.it) x.r), a ∈ l) ∧ ∀ a ∈ (itmOf p id).af, a ∈ l) ∧ ∀ x ∈ p.ro, 0 ≤ overL p.it x l := by
  unfold feasR;exact ⟨fun h => ⟨fun id hid => blk_iff.1 (h.1 id hid), fun x hx => by have := h.2 x hx; omega⟩, fun h => ⟨fun id hid => blk_iff.2 (h.1 id hid), fun x hx => by have := h.2 x hx; omega⟩⟩
theorem feas_more {p q : Prb} {l : List Int} (hi : q.it = p.it) (hr : ∀ o ∈ q.ro, ∃ o' ∈ p.ro, o'.r = o.r ∧ max o'.n 0 ≤ max o.n 0) (h : feasR p l) : feasR q l := by
  obtain ⟨h1, h2⟩ := Zcq.1 h;refine Zcq.2 ⟨fun id hid => ⟨fun x hx => ?_, ?_⟩, fun x hx => ?_⟩
  · obtain ⟨o', ho, e, _⟩ := hr x hx;rw [hi, ← e]; exact (h1 id hid).1 o' ho
  · have e : itmOf q id = itmOf p id := by unfold itmOf; rw [hi]
    rw [e]; exact (h1 id hid).2
  · obtain ⟨o', ho, e, hm⟩ := hr x hx;have h3 := h2 o' ho;unfold overL at h3 ⊢;rw [hi, ← e]; omega
end Go.Proofs.YtneihdahboilnaaGreat
/- Openers of small numbers. No program in sight. -/
namespace Go.Proofs.YtneihdahboilnaaGreat
open Go.ChangeShapes Go.WideShapes Go.ChangeAt Go.RowKit

section
variable {H : Type} {enc : TypeId × Value → H} {P : Program} {w : World}
theorem openU8 {t : TypeId} (ht : P.underlying t = some (.int .u8)) : OpenT enc P w t 1 (fun n : Nat => .raw (.int .u8 (n : Int))) (fun n => n < 256) :=
  (openInt ht).asQ Int.toNat (fun a ⟨h1, _⟩ => by rw [Int.toNat_of_nonneg h1]) (fun a ⟨h1, h2⟩ => by have : a ≤ 255 := h2; omega)
end
end Go.Proofs.YtneihdahboilnaaGreat
