/- Layer 28, plain: the deltas of an item balance. -/
import Derived.Test.YtfmpiabmnjmobaaLawR4
namespace Go.Proofs.Ytfmpiabmnjmobaa
open Go.RowKit

theorem sum_flt {α : Type} {p : α → Bool} {f : α → Int} (h : ∀ x, ¬ p x = true → f x = 0) (l : List α) : ((l.filter p).map f).sum = (l.map f).sum := by
  induction l with
  | nil => rfl
  | cons a l ih =>
    by_cases hp : p a = true
    · rw [List.filter_cons_of_pos hp, List.map_cons, List.map_cons, List.sum_cons, List.sum_cons, ih]
    · rw [List.filter_cons_of_neg hp, List.map_cons, List.sum_cons, ih, h a hp]; omega
theorem sum_add {α : Type} (f g : α → Int) (l : List α) : (l.map fun x => f x + g x).sum = (l.map f).sum + (l.map g).sum := by
  induction l with
  | nil => rfl
  | cons a l ih => simp only [List.map_cons, List.sum_cons, ih]; omega
theorem sum_zero {α : Type} {f : α → Int} {l : List α} (h : ∀ x ∈ l, f x = 0) : (l.map f).sum = 0 := by
  induction l with
  | nil => rfl
  | cons a l ih => rw [List.map_cons, List.sum_cons, h a (by simp), ih fun x hx => h x (by simp [hx])]; rfl
theorem sum_single {T : List Rsc} (hn : T.Nodup) {y : Rsc} (hy : y ∈ T) (v : Int) : (T.map fun r => if y = r then v else 0).sum = v := by
  induction T with
  | nil => cases hy
  | cons a T ih =>
    rw [List.nodup_cons] at hn
    rw [List.map_cons, List.sum_cons]
    by_cases e : y = a
    · rw [if_pos e, sum_zero fun x hx => if_neg fun e' => hn.1 (by rw [← e, e']; exact hx)]; omega
    · rw [if_neg e, ih hn.2 (by rcases List.mem_cons.1 hy with h | h; exact absurd h e; exact h)]; omega
theorem sum_swap {T : List Rsc} (hn : T.Nodup) (p : Rsc → Prop) [DecidablePred p] : ∀ (c : List (Rsc × Int)), (∀ y ∈ c, y.1 ∈ T) → (T.map fun r => if p r then ctrSum c r else 0).sum = (c.map fun y => if p y.1 then y.2 else 0).sum
  | [], _ => by rw [sum_zero fun x _ => by simp [ctrSum]]; rfl
  | y :: c, h => by
    have ih := sum_swap hn p c fun z hz => h z (by simp [hz])
    have e : (fun r => if p r then ctrSum (y :: c) r else 0) = fun r => (if y.1 = r then (if p y.1 then y.2 else 0) else 0) + (if p r then ctrSum c r else 0) := by
      funext r
      have : ctrSum (y :: c) r = (if y.1 = r then y.2 else 0) + ctrSum c r := by simp [ctrSum]
      rw [this]
      by_cases e1 : y.1 = r
      · subst e1; by_cases e2 : p y.1 <;> simp [e2]
      · by_cases e2 : p r <;> simp [e1, e2]
    rw [e, sum_add, ih, sum_single hn (h y (by simp)), List.map_cons, List.sum_cons]
theorem touL_nodup (c : List (Rsc × Int)) : (touL c).Nodup := (touL_ris c).imp fun {a b} h e => by subst e; rw [cmpR_pc.refl] at h; omega
def bs (a : List UInt8) (x : Rsc × Int) : Int := if x.1.k = 0 ∧ x.1.acc.a = a then x.2 else 0
theorem bs_sum (i : Itm) (a : List UInt8) : ((dltL i).map (bs a)).sum = assetSum i.po a := by
  show (((List.map _ _).filter _).map (bs a)).sum = _
  rw [sum_flt (fun x hx => by have : x.2 = 0 := by simpa using hx
                              unfold bs; rw [this]; simp), List.map_map]
  have h := sum_swap (touL_nodup (ctr i)) (fun r => r.k = 0 ∧ r.acc.a = a) (ctr i) fun y hy => (touL_mem _ _).2 (List.mem_map.2 ⟨y, hy, rfl⟩)
  refine h.trans ?_
  rw [ctr, List.map_append, List.sum_append, sum_zero (l := ctrY i.pa) fun x hx => by
    obtain ⟨p, _, hp⟩ := List.mem_flatMap.1 hx
    simp only [ctr1, List.mem_cons, List.not_mem_nil, or_false] at hp
    rcases hp with rfl | rfl | rfl | rfl <;> simp]
  rw [Int.add_zero]
  unfold ctrP assetSum
  rw [List.map_map]
  congr 1
  apply List.map_congr_left
  intro p _
  simp
theorem dltL_mem {i : Itm} {x : Rsc × Int} (h : x ∈ dltL i) : x.1 ∈ (ctr i).map Prod.fst ∧ x.2 = ctrSum (ctr i) x.1 ∧ x.2 ≠ 0 := by
  obtain ⟨h1, h2⟩ := (dltC_mem _ _).1 h
  obtain ⟨h3, h4⟩ := (sumL_mem _ x.1 x.2).1 h1
  exact ⟨h3, h4, h2⟩
theorem dlt_sum0 {i : Itm} (hb : balE i = 0) {x : Rsc × Int} (h : x ∈ dltL i) (hk : x.1.k = 0) : ((dltL i).map (bs x.1.acc.a)).sum = 0 := by
  rw [bs_sum]
  obtain ⟨h1, _, _⟩ := dltL_mem h
  obtain ⟨y, hy, he⟩ := List.mem_map.1 h1
  rcases List.mem_append.1 hy with hy | hy
  · obtain ⟨p, hp, rfl⟩ := List.mem_map.1 hy
    rw [← he]
    unfold balE at hb
    split at hb
    · cases hb
    · rename_i hn
      exact Decidable.byContradiction fun h => hn ⟨p, hp, h⟩
  · obtain ⟨p, _, hp⟩ := List.mem_flatMap.1 hy
    simp only [ctr1, List.mem_cons, List.not_mem_nil, or_false] at hp
    rw [← he] at hk
    rcases hp with rfl | rfl | rfl | rfl <;> simp at hk
theorem yd_swap (r : Rsc) (hk : r.k = 1) (p : Pay) : yd ⟨1, acc0, r.t, r.f⟩ p = - yd r p := by
  have q1 : ¬ (1 : Int) = 2 := by decide
  simp only [yd, yd1, yd2, hk, q1, false_or]
  by_cases b1 : p.f = r.f ∧ p.t = r.t
  · by_cases b2 : p.t = r.f ∧ p.f = r.t
    · rw [if_pos b1, if_pos b2, if_pos ⟨b2.2, b2.1⟩, if_pos ⟨b1.2, b1.1⟩]; omega
    · rw [if_pos b1, if_neg b2, if_neg fun h => b2 ⟨h.2, h.1⟩, if_pos ⟨b1.2, b1.1⟩]; omega
  · by_cases b2 : p.t = r.f ∧ p.f = r.t
    · rw [if_neg b1, if_pos b2, if_pos ⟨b2.2, b2.1⟩, if_neg fun h => b1 ⟨h.2, h.1⟩]; omega
    · rw [if_neg b1, if_neg b2, if_neg fun h => b2 ⟨h.2, h.1⟩, if_neg fun h => b1 ⟨h.2, h.1⟩]; omega
theorem sum_neg {α : Type} {f g : α → Int} (h : ∀ x, g x = - f x) (l : List α) : (l.map g).sum = - (l.map f).sum := by
  induction l with
  | nil => rfl
  | cons a l ih => rw [List.map_cons, List.map_cons, List.sum_cons, List.sum_cons, ih, h]; omega
theorem dlt_opp {i : Itm} (hz1 : postE i = 0) (hz2 : payE i = 0) {x : Rsc × Int} (h : x ∈ dltL i) (hk : x.1.k = 1) : (⟨1, acc0, x.1.t, x.1.f⟩, 0 - x.2) ∈ dltL i := by
  obtain ⟨h1, h2, h3⟩ := dltL_mem h
  have hm : (⟨1, acc0, x.1.t, x.1.f⟩ : Rsc) ∈ (ctr i).map Prod.fst := by
    obtain ⟨y, hy, he⟩ := List.mem_map.1 h1
    rcases List.mem_append.1 hy with hy | hy
    · obtain ⟨p, hp, rfl⟩ := List.mem_map.1 hy
      rw [← he] at hk; simp at hk
    · obtain ⟨p, hp, hq⟩ := List.mem_flatMap.1 hy
      refine List.mem_map.2 ?_
      simp only [ctr1, List.mem_cons, List.not_mem_nil, or_false] at hq
      rcases hq with rfl | rfl | rfl | rfl
      · exact ⟨(rBil p.t p.f, p.n), List.mem_append.2 (.inr (List.mem_flatMap.2 ⟨p, hp, by simp [ctr1]⟩)), by rw [← he]⟩
      · exact ⟨(rBil p.f p.t, -p.n), List.mem_append.2 (.inr (List.mem_flatMap.2 ⟨p, hp, by simp [ctr1]⟩)), by rw [← he]⟩
      · rw [← he] at hk; simp at hk
      · rw [← he] at hk; simp at hk
  have e1 := rdelta_eq (i := i) (tou_valid hz1 hz2 ((touL_mem _ _).2 h1))
  have e2 := rdelta_eq (i := i) (tou_valid hz1 hz2 ((touL_mem _ _).2 hm))
  have e3 : ctrSum (ctr i) ⟨1, acc0, x.1.t, x.1.f⟩ = - ctrSum (ctr i) x.1 := by
    rw [← e1, ← e2]
    unfold rdelta
    rw [if_neg (show ¬ (1 : Int) = 0 by decide), if_neg (by rw [hk]; decide)]
    exact sum_neg (yd_swap x.1 hk) _
  refine (dltC_mem _ _).2 ⟨(sumL_mem _ _ _).2 ⟨hm, ?_⟩, ?_⟩
  · rw [e3, ← h2]; omega
  · show 0 - x.2 ≠ 0; omega
theorem bndE_in {i : Itm} (h : bndE i = 0) {x : Rsc × Int} (hx : x ∈ dltL i) : -Mx ≤ x.2 ∧ x.2 ≤ Mx := by
  have h1 := ((dltC_mem _ _).1 hx).1
  unfold bndE at h
  split at h
  · cases h
  · rename_i hn
    exact Decidable.byContradiction fun h => hn ⟨x, h1, h⟩
end Go.Proofs.Ytfmpiabmnjmobaa
