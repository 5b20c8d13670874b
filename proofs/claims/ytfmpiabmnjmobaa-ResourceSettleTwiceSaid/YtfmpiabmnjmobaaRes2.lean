/- Layer 28: sums by asset, sums by resource. -/
import Derived.Test.YtfmpiabmnjmobaaRes1
namespace Go.Proofs.Ytfmpiabmnjmobaa
open Go.RowKit

theorem assetSum_snoc (l : List Post) (p : Post) (a : List UInt8) : assetSum (l ++ [p]) a = assetSum l a + if p.acc.a = a then p.d else 0 := by simp [assetSum]
theorem assetSum_bound (l : List Post) (a : List UInt8) (h : ∀ p ∈ l, -Mx ≤ p.d ∧ p.d ≤ Mx) : -(l.length * 1000000000000000) ≤ assetSum l a ∧ assetSum l a ≤ l.length * 1000000000000000 := by
  induction l with
  | nil => simp [assetSum]
  | cons p r ih =>
    have h1 := ih fun q hq => h q (by simp [hq])
    have h2 := h p (by simp)
    have e : assetSum (p :: r) a = (if p.acc.a = a then p.d else 0) + assetSum r a := by simp [assetSum]
    rw [e]
    simp only [Mx] at h2
    have e2 : ((p :: r).length : Int) = r.length + 1 := by simp
    rw [e2]
    split <;> omega
/-- What a map of sums holds behind the first postings. -/
def BalM (l : List Post) (M : List (List UInt8 × Int)) : Prop := (M.map Prod.fst).Nodup ∧ (∀ a, mget M a 0 = assetSum l a) ∧ (∀ a, a ∈ M.map Prod.fst → ∃ p ∈ l, p.acc.a = a) ∧ ∀ p ∈ l, p.acc.a ∈ M.map Prod.fst
theorem mem_put {α β : Type} [DecidableEq α] {M : List (α × β)} {a a' : α} {b : β} : a' ∈ (mput M a b).map Prod.fst ↔ a' = a ∨ a' ∈ M.map Prod.fst := by
  rw [mput_keys]
  split
  · rename_i h
    exact ⟨.inr, fun h' => h'.elim (fun e => by rw [e]; exact h) id⟩
  · simp [or_comm]
theorem BalM.snoc {l : List Post} {M : List (List UInt8 × Int)} (h : BalM l M) (p : Post) : BalM (l ++ [p]) (mput M p.acc.a (mget M p.acc.a 0 + p.d)) := by
  obtain ⟨h1, h2, h3, h4⟩ := h
  refine ⟨mput_nodup h1, fun a => ?_, fun a ha => ?_, fun q hq => ?_⟩
  · rw [mget_put, assetSum_snoc]
    split
    · rename_i e; rw [e, h2, if_pos rfl]
    · rename_i e; rw [h2, if_neg (fun e' => e e'.symm)]; omega
  · rcases mem_put.1 ha with e | e
    · exact ⟨p, by simp, e.symm⟩
    · obtain ⟨q, hq, e2⟩ := h3 a e
      exact ⟨q, by simp [hq], e2⟩
  · rcases List.mem_append.1 hq with hq | hq
    · exact mem_put.2 (.inr (h4 q hq))
    · simp at hq; subst hq; exact mem_put.2 (.inl rfl)
theorem bal_bad {i : Itm} {M : List (List UInt8 × Int)} (h : BalM i.po M) {j : Nat} {a : List UInt8} {v : Int} (hm : M[j]? = some (a, v)) (hv : v ≠ 0) : (14 : Int) = balE i := by
  have hmem := List.mem_of_getElem? hm
  have h1 := mget_of_mem (z := 0) h.1 hmem
  rw [h.2.1] at h1
  obtain ⟨p, hp, e⟩ := h.2.2.1 a (List.mem_map_of_mem (f := Prod.fst) hmem)
  unfold balE
  rw [if_pos ⟨p, hp, by rw [e, h1]; exact hv⟩]
theorem bal_ok {i : Itm} {M : List (List UInt8 × Int)} (h : BalM i.po M) (h0 : ∀ x ∈ M, x.2 = 0) : (0 : Int) = balE i := by
  unfold balE
  rw [if_neg]
  rintro ⟨p, hp, hne⟩
  refine hne ?_
  rw [← h.2.1]
  exact h0 _ (mget_mem (z := 0) (h.2.2.2 p hp))
theorem take_po {l : List Post} {k : Nat} (h : ∀ p ∈ l, -Mx ≤ p.d ∧ p.d ≤ Mx) : ∀ p ∈ l.take k, -Mx ≤ p.d ∧ p.d ≤ Mx := fun p hp => h p (List.mem_of_mem_take hp)
set_option maxRecDepth 100000 in
theorem balanced_p (i : Itm) (hn : i.po.length ≤ 256) (hb : ∀ p ∈ i.po, -Mx ≤ p.d ∧ p.d ≤ Mx) : PCalls Try.prog 54 [.d (itmD i)] (intD (balE i)) := by
  refine a_enter Try.func54 rfl rfl Try.ntmps54 rfl rfl rfl fun F hF => ?_
  refine a_seq ?_
  refine a_region ?_
  refine Estep.go (st_box 1 rfl rfl rfl rfl rfl rfl rfl) ?_
  refine Pstep.go (st_assign rfl rfl) ?_
  refine o_nil ?_
  refine a_seq ?_
  refine a_region ?_
  refine Estep.go (st_makeMap 2 rfl rfl rfl rfl) ?_
  refine Pstep.go (st_assign rfl rfl) ?_
  refine o_nil ?_
  refine a_seq ?_
  refine a_seq ?_
  refine a_region ?_
  refine Pstep.go (st_fieldP rfl fi33_3 rfl rfl rfl) ?_
  refine Pstep.go (st_loadP rfl rfl rfl on30 rfl) ?_
  refine Pstep.go (st_lenMap rfl Try.underlying30 rfl) ?_
  refine Pstep.go (st_move rfl rfl) ?_
  refine o_nil ?_
  refine a_block ?_
  refine a_loopP (α := Nat × List (List UInt8 × Int)) (fun q => ⟨33, [(3, (.map 2 0)), (10, (.d (.sl none (i.po.map postD)))), (11, (.d (intD (i.po.length : Int)))), (12, (.d (intD (q.1 : Int))))], [(2, [mapC strD intD q.2])]⟩) (fun q => q.1 ≤ i.po.length ∧ BalM (i.po.take q.1) q.2) (fun q => i.po.length - q.1) ((0, [])) (⟨Nat.zero_le _, ⟨by simp, by simp [assetSum, mget], by simp, by simp⟩⟩) (lep_of hF [2] rfl rfl ⟨rfl, rfl, rfl, rfl, trivial⟩) ?_
  rintro ⟨k, M⟩ ⟨hk0, hM⟩
  dsimp only at hk0 hM ⊢
  refine a_seq ?_
  refine a_region ?_
  refine Pstep.go (st_lss rfl rfl rfl) ?_
  refine o_nil ?_
  refine a_seq ?_
  refine a_if rfl (fun h13 => ?_) (fun h13 => ?_)
  · have hk1 : k < i.po.length := lt_cast h13
    refine a_skip ?_
    refine a_seq ?_
    refine a_block ?_
    refine a_seq ?_
    refine a_region ?_
    have hbk := hb _ (List.getElem_mem hk1)
    have hgb := assetSum_bound (i.po.take k) i.po[k].acc.a (take_po hb)
    rw [← hM.2.1, List.length_take] at hgb
    simp only [Mx] at hbk
    refine Pstep.go (st_indexD (k) rfl rfl (rfl) (getm hk1) Try.underlying30 rfl sz106 rfl) ?_
    refine Pstep.go (st_loadDS rfl rfl rw106 rfl) ?_
    refine Estep.go (st_alloc 3 zl106 rfl rfl rfl rfl) ?_
    refine Estep.go (st_storeP rfl rfl rfl rfl rfl rfl rfl sz106) ?_
    refine o_nil ?_
    refine a_region ?_
    refine Pstep.go (st_move rfl rfl) ?_
    refine Pstep.go (st_fieldP rfl fi106_0 rfl rfl rfl) ?_
    refine Pstep.go (st_fieldP rfl fi41_2 rfl rfl rfl) ?_
    refine Pstep.go (st_loadP rfl rfl rfl on9 rfl) ?_
    refine Pstep.go (st_look (M) (i.po[k].acc.a) (0) _ rfl rfl rfl mt140 kt9 za2 rfl rfl) ?_
    refine Pstep.go (st_fieldP rfl fi106_1 rfl rfl rfl) ?_
    refine Pstep.go (st_loadP rfl rfl rfl on2 rfl) ?_
    refine Pstep.go (st_add rfl rfl (IntWalk.i64_in _ (by omega)) rfl) ?_
    refine Estep.go (st_mapU (M) (i.po[k].acc.a) (mget M i.po[k].acc.a 0 + i.po[k].d) rfl rfl rfl mt140 kt9 rfl rfl) ?_
    refine o_nil ?_
    refine a_region ?_
    refine Pstep.go (st_add rfl rfl (wrapS (k + 1) (by omega)) rfl) ?_
    refine Pstep.go (st_move rfl rfl) ?_
    refine o_nil ?_
    exact ⟨(k + 1, _), ⟨by show k + 1 ≤ _; omega, by have := hM.snoc i.po[k]; rwa [← List.take_succ_eq_append_getElem hk1] at this⟩, by show i.po.length - (k + 1) < i.po.length - k; omega, lep_of hF [2] rfl (rfl) ⟨rfl, rfl, rfl, rfl, trivial⟩⟩
  · refine a_exit ?_
    refine a_seq ?_
    refine a_seq ?_
    have hM' : BalM i.po M := by rw [List.take_of_length_le (by have h := h13; omega)] at hM; exact hM
    refine a_region ?_
    refine Pstep.go (st_move rfl rfl) ?_
    refine Estep.go (st_range 4 rfl rfl rfl mt140 rfl rfl rfl rfl) ?_
    refine o_nil ?_
    refine a_block ?_
    refine a_loopP (α := List Nat) (fun seen => ⟨33, [(26, (.ptr 4 0 0))], [(4, [.iter 2 0 M.length seen]), (2, [mapC strD intD M])]⟩) (fun seen => ∀ x ∈ M, x ∈ lft M (List.range M.length) seen ∨ x.2 = 0) (fun seen => (lft M (List.range M.length) seen).length) ([]) (fun x hx => .inl (by rw [lft_start (by simp)]; exact hx)) (lep_of hF [4, 2] rfl rfl ⟨rfl, trivial⟩) ?_
    intro seen hI
    refine a_seq ?_
    refine a_region ?_
    refine o_next (M) rfl rfl rfl rfl (fun hl27 => ?_) (fun j27 b27 k27 v27 hm27 hb27 hB27 hp27 => ⟨_, rfl, ?_⟩)
    · refine Pstep.go (st_extract rfl rfl rfl) ?_
      refine o_nil ?_
      refine a_seq ?_
      refine a_false rfl rfl ?_
      refine a_exit ?_
      refine a_seq ?_
      refine a_region ?_
      refine Pstep.go (st_assign rfl rfl) ?_
      refine o_nil ?_
      refine a_ret ?_
      exact ⟨_, [], [], res_of rfl, rfl, rfl, retI (bal_ok hM' fun x hx => (hI x hx).elim (fun h => by rw [hl27] at h; cases h) id), rfl⟩
    · refine Pstep.go (st_extract rfl rfl rfl) ?_
      refine o_nil ?_
      refine a_seq ?_
      refine a_true rfl rfl ?_
      refine a_skip ?_
      refine a_block ?_
      refine a_seq ?_
      refine a_region ?_
      refine Pstep.go (st_entry (M) j27 b27 rfl rfl rfl hm27 hb27 rfl) ?_
      refine Pstep.go (st_extract rfl rfl rfl) ?_
      refine Pstep.go (st_assign rfl rfl) ?_
      refine o_nil ?_
      refine a_seq ?_
      refine a_region ?_
      refine Pstep.go (st_move rfl rfl) ?_
      refine Pstep.go (st_neq rfl rfl rfl) ?_
      refine o_nil ?_
      refine a_if rfl (fun h32 => ?_) (fun h32 => ?_)
      · refine a_seq ?_
        refine a_region ?_
        refine Pstep.go (st_assign rfl rfl) ?_
        refine o_nil ?_
        refine a_ret ?_
        exact ⟨_, [], [], res_of rfl, rfl, rfl, retI (bal_bad hM' hm27 h32), rfl⟩
      · refine a_skip ?_
        exact ⟨seen ++ [b27], fun x hx => (hI x hx).elim (fun h => (List.mem_cons.1 (hp27.mem_iff.1 h)).elim (fun e => .inr (by rw [e]; simpa using h32)) .inl) .inr, by rw [hp27.length_eq]; exact Nat.lt_succ_self _, lep_of hF [4, 2] rfl (rfl) ⟨rfl, trivial⟩⟩
end Go.Proofs.Ytfmpiabmnjmobaa

/- Layer 28: the sums by resource. -/
namespace Go.Proofs.Ytfmpiabmnjmobaa
open Go.RowKit

abbrev acc0 : Acc := ⟨[], 0, []⟩
abbrev rPost (p : Post) : Rsc := ⟨0, p.acc, [], []⟩
abbrev rBil (f t : List UInt8) : Rsc := ⟨1, acc0, f, t⟩
abbrev rMul (f : List UInt8) : Rsc := ⟨2, acc0, f, []⟩
def addL (M : List (Rsc × Int)) (x : Rsc × Int) : List (Rsc × Int) := mput M x.1 (mget M x.1 0 + x.2)
/-- What the postings and the payments add. -/
def ctrP (l : List Post) : List (Rsc × Int) := l.map fun p => (rPost p, p.d)
def ctr1 (p : Pay) : List (Rsc × Int) := [(rBil p.f p.t, -p.n), (rBil p.t p.f, p.n), (rMul p.f, -p.n), (rMul p.t, p.n)]
def ctrY (l : List Pay) : List (Rsc × Int) := l.flatMap ctr1
def ctr (i : Itm) : List (Rsc × Int) := ctrP i.po ++ ctrY i.pa
def sumL (l : List (Rsc × Int)) : List (Rsc × Int) := l.foldl addL []
def ctrSum (l : List (Rsc × Int)) (r : Rsc) : Int := (l.map fun x => if x.1 = r then x.2 else 0).sum
theorem sumL_snoc (l : List (Rsc × Int)) (x : Rsc × Int) : sumL (l ++ [x]) = addL (sumL l) x := by simp [sumL]
theorem ctrSum_append (l m : List (Rsc × Int)) (r : Rsc) : ctrSum (l ++ m) r = ctrSum l r + ctrSum m r := by simp [ctrSum]
theorem ctrSum_one (x : Rsc × Int) (r : Rsc) : ctrSum [x] r = if x.1 = r then x.2 else 0 := by simp [ctrSum]
theorem snoc_ind {α : Type} {p : List α → Prop} (h0 : p []) (h1 : ∀ l x, p l → p (l ++ [x])) (l : List α) : p l := by
  have : ∀ m : List α, p m.reverse := fun m => by
    induction m with
    | nil => exact h0
    | cons x r ih => rw [List.reverse_cons]; exact h1 _ _ ih
  have := this l.reverse
  rwa [List.reverse_reverse] at this
theorem sumL_get (l : List (Rsc × Int)) (r : Rsc) : mget (sumL l) r 0 = ctrSum l r := by
  revert r
  refine snoc_ind (p := fun l => ∀ r, mget (sumL l) r 0 = ctrSum l r) (fun r => rfl) (fun l x ih r => ?_) l
  rw [sumL_snoc, addL, mget_put, ctrSum_append, ctrSum_one]
  split
  · rename_i h; rw [ih, h, if_pos rfl]
  · rename_i h; rw [ih, if_neg (fun e => h e.symm)]; omega
theorem sumL_nodup (l : List (Rsc × Int)) : ((sumL l).map Prod.fst).Nodup :=
  snoc_ind (p := fun l => ((sumL l).map Prod.fst).Nodup) (by simp [sumL]) (fun l x ih => by rw [sumL_snoc]; exact mput_nodup ih) l
theorem sumL_keys (l : List (Rsc × Int)) (r : Rsc) : r ∈ (sumL l).map Prod.fst ↔ r ∈ l.map Prod.fst := by
  refine snoc_ind (p := fun l => r ∈ (sumL l).map Prod.fst ↔ r ∈ l.map Prod.fst) (by simp [sumL]) (fun l x ih => ?_) l
  rw [sumL_snoc, addL, mem_put, ih]
  simp [or_comm]
/-- Every amount that comes in is bounded. -/
def Bnd (l : List (Rsc × Int)) : Prop := ∀ x ∈ l, -1000000000000000 ≤ x.2 ∧ x.2 ≤ 1000000000000000
theorem ctrSum_bound {l : List (Rsc × Int)} (h : Bnd l) (r : Rsc) : -(l.length * 1000000000000000) ≤ ctrSum l r ∧ ctrSum l r ≤ l.length * 1000000000000000 := by
  induction l with
  | nil => simp [ctrSum]
  | cons x l ih =>
    have h1 := ih fun q hq => h q (by simp [hq])
    have h2 := h x (by simp)
    have e : ctrSum (x :: l) r = (if x.1 = r then x.2 else 0) + ctrSum l r := by simp [ctrSum]
    have e2 : ((x :: l).length : Int) = l.length + 1 := by simp
    rw [e, e2]
    split <;> omega
/-- What an item's parts must be for its sums to be reckoned. -/
structure ItmB (i : Itm) : Prop where
  po : i.po.length ≤ 256
  pa : i.pa.length ≤ 256
  af : i.af.length ≤ 256
  d : ∀ p ∈ i.po, -Mx ≤ p.d ∧ p.d ≤ Mx
  n : ∀ p ∈ i.pa, 0 ≤ p.n ∧ p.n ≤ Mx
theorem ctrY_length (l : List Pay) : (ctrY l).length = 4 * l.length := by
  induction l with
  | nil => rfl
  | cons p r ih => simp only [ctrY, List.flatMap_cons, List.length_append, List.length_cons] at ih ⊢; rw [ih]; simp [ctr1]; omega
theorem bnd_P {l : List Post} (h : ∀ p ∈ l, -Mx ≤ p.d ∧ p.d ≤ Mx) : Bnd (ctrP l) := fun x hx => by
  obtain ⟨p, hp, rfl⟩ := List.mem_map.1 hx
  have := h p hp
  simp only [Mx] at this
  exact this
theorem bnd_1 {p : Pay} (h : 0 ≤ p.n ∧ p.n ≤ Mx) : Bnd (ctr1 p) := fun x hx => by
  simp only [Mx] at h
  simp only [ctr1, List.mem_cons, List.not_mem_nil, or_false] at hx
  rcases hx with rfl | rfl | rfl | rfl <;> simp only <;> omega
theorem bnd_Y {l : List Pay} (h : ∀ p ∈ l, 0 ≤ p.n ∧ p.n ≤ Mx) : Bnd (ctrY l) := fun x hx => by
  obtain ⟨p, hp, hx⟩ := List.mem_flatMap.1 hx
  exact bnd_1 (h p hp) x hx
theorem Bnd.append {l m : List (Rsc × Int)} (h : Bnd l) (h' : Bnd m) : Bnd (l ++ m) := fun x hx => (List.mem_append.1 hx).elim (h x) (h' x)
theorem Bnd.take {l : List (Rsc × Int)} (h : Bnd l) (k : Nat) : Bnd (l.take k) := fun x hx => h x (List.mem_of_mem_take hx)
/-- Numbers that an int64 holds with room to spare. -/
theorem sumL_small {l : List (Rsc × Int)} (h : Bnd l) (hl : l.length ≤ 2000) (r : Rsc) : -2000000000000000000 ≤ mget (sumL l) r 0 ∧ mget (sumL l) r 0 ≤ 2000000000000000000 := by
  have := ctrSum_bound h r
  rw [sumL_get]; omega

theorem ctrP_snoc {l : List Post} {k : Nat} (hk : k < l.length) : ctrP (l.take (k + 1)) = ctrP (l.take k) ++ [(rPost l[k], l[k].d)] := by
  simp only [ctrP]; rw [List.take_succ_eq_append_getElem hk, List.map_append]; rfl
theorem ctrY_snoc {l : List Pay} {k : Nat} (hk : k < l.length) : ctrY (l.take (k + 1)) = ctrY (l.take k) ++ ctr1 l[k] := by
  simp only [ctrY]; rw [List.take_succ_eq_append_getElem hk, List.flatMap_append]; simp
def st1 (M : List (Rsc × Int)) (p : Pay) : List (Rsc × Int) := mput M (rBil p.f p.t) (mget M (rBil p.f p.t) 0 - p.n)
def st2 (M : List (Rsc × Int)) (p : Pay) : List (Rsc × Int) := mput M (rBil p.t p.f) (mget M (rBil p.t p.f) 0 + p.n)
def st3 (M : List (Rsc × Int)) (p : Pay) : List (Rsc × Int) := mput M (rMul p.f) (mget M (rMul p.f) 0 - p.n)
def st4 (M : List (Rsc × Int)) (p : Pay) : List (Rsc × Int) := mput M (rMul p.t) (mget M (rMul p.t) 0 + p.n)
theorem st_all {l : List (Rsc × Int)} {p : Pay} {M : List (Rsc × Int)} (h : M = sumL l) : st1 M p = sumL (l ++ [(rBil p.f p.t, -p.n)]) ∧ st2 (st1 M p) p = sumL (l ++ [(rBil p.f p.t, -p.n), (rBil p.t p.f, p.n)]) ∧ st3 (st2 (st1 M p) p) p = sumL (l ++ [(rBil p.f p.t, -p.n), (rBil p.t p.f, p.n), (rMul p.f, -p.n)]) ∧ st4 (st3 (st2 (st1 M p) p) p) p = sumL (l ++ ctr1 p) := by
  subst h
  have e : ∀ (l : List (Rsc × Int)) (x : Rsc × Int) (r : List (Rsc × Int)), l ++ x :: r = (l ++ [x]) ++ r := by simp
  refine ⟨?_, ?_, ?_, ?_⟩
  · rw [sumL_snoc]; rfl
  · rw [e, sumL_snoc, sumL_snoc]; rfl
  · rw [e, e, sumL_snoc, sumL_snoc, sumL_snoc]; rfl
  · rw [ctr1, e, e, e, sumL_snoc, sumL_snoc, sumL_snoc, sumL_snoc]; rfl
theorem st_small {l : List (Rsc × Int)} {p : Pay} {M : List (Rsc × Int)} (h : M = sumL l) (hb : Bnd l) (hl : l.length ≤ 1900) (hp : 0 ≤ p.n ∧ p.n ≤ Mx) (r : Rsc) : (-2000000000000000000 ≤ mget M r 0 ∧ mget M r 0 ≤ 2000000000000000000) ∧ (-2000000000000000000 ≤ mget (st1 M p) r 0 ∧ mget (st1 M p) r 0 ≤ 2000000000000000000) ∧ (-2000000000000000000 ≤ mget (st2 (st1 M p) p) r 0 ∧ mget (st2 (st1 M p) p) r 0 ≤ 2000000000000000000) ∧ (-2000000000000000000 ≤ mget (st3 (st2 (st1 M p) p) p) r 0 ∧ mget (st3 (st2 (st1 M p) p) p) r 0 ≤ 2000000000000000000) := by
  obtain ⟨e1, e2, e3, _⟩ := st_all (p := p) h
  have hb4 := bnd_1 hp
  rw [e3, e2, e1, h]
  refine ⟨sumL_small hb (by omega) r, sumL_small (hb.append fun x hx => hb4 x ?_) (by simp; omega) r, sumL_small (hb.append fun x hx => hb4 x ?_) (by simp; omega) r, sumL_small (hb.append fun x hx => hb4 x ?_) (by simp; omega) r⟩
  all_goals
    simp only [ctr1, List.mem_cons, List.not_mem_nil, or_false] at hx ⊢
    first
      | exact .inl hx
      | exact hx.elim .inl fun h => .inr (.inl h)
      | exact hx.elim .inl fun h => h.elim (fun h => .inr (.inl h)) fun h => .inr (.inr (.inl h))
set_option maxRecDepth 100000 in
set_option maxHeartbeats 1000000 in
theorem sums_c (i : Itm) (hi : ItmB i) : ACalls Try.prog 60 [.d (itmD i)] [] fun r H' => r = .map 2 0 ∧ H' = [(2, [mapC rscD intD (sumL (ctr i))])] := by
  have hpo := hi.po
  have hpa := hi.pa
  refine a_enter Try.func60 rfl rfl Try.ntmps60 rfl rfl rfl fun F hF => ?_
  refine a_seq ?_
  refine a_region ?_
  refine Estep.go (st_box 1 rfl rfl rfl rfl rfl rfl rfl) ?_
  refine Pstep.go (st_assign rfl rfl) ?_
  refine o_nil ?_
  refine a_seq ?_
  refine a_region ?_
  refine Estep.go (st_makeMap 2 rfl rfl rfl rfl) ?_
  refine Pstep.go (st_assign rfl rfl) ?_
  refine o_nil ?_
  refine a_seq ?_
  refine a_seq ?_
  refine a_region ?_
  refine Pstep.go (st_fieldP rfl fi33_3 rfl rfl rfl) ?_
  refine Pstep.go (st_loadP rfl rfl rfl on30 rfl) ?_
  refine Pstep.go (st_lenMap rfl Try.underlying30 rfl) ?_
  refine Pstep.go (st_move rfl rfl) ?_
  refine o_nil ?_
  refine a_block ?_
  refine a_loopP (α := Nat × List (Rsc × Int)) (fun q => ⟨80, [(1, (.ptr 1 0 0)), (3, (.map 2 0)), (10, (.d (.sl none (i.po.map postD)))), (11, (.d (intD (i.po.length : Int)))), (12, (.d (intD (q.1 : Int))))], [(2, [mapC rscD intD q.2]), (1, [.blk 33 [.d (intD i.id), .d (intD i.pr), .d (intD i.sq), .d (.sl none (i.po.map postD)), .d (.sl none (i.pa.map payD)), .d (.sl none (i.af.map intD))]])]⟩) (fun q => q.1 ≤ i.po.length ∧ q.2 = sumL (ctrP (i.po.take q.1))) (fun q => i.po.length - q.1) ((0, [])) (⟨Nat.zero_le _, rfl⟩) (lep_of hF [2, 1] rfl rfl ⟨rfl, rfl, rfl, rfl, rfl, trivial⟩) ?_
  rintro ⟨k, M⟩ ⟨hk0, hM⟩
  dsimp only at hk0 hM ⊢
  refine a_seq ?_
  refine a_region ?_
  refine Pstep.go (st_lss rfl rfl rfl) ?_
  refine o_nil ?_
  refine a_seq ?_
  refine a_if rfl (fun h13 => ?_) (fun h13 => ?_)
  · have hk1 : k < i.po.length := lt_cast h13
    refine a_skip ?_
    refine a_seq ?_
    refine a_block ?_
    refine a_seq ?_
    refine a_region ?_
    have hbk := hi.d _ (List.getElem_mem hk1)
    simp only [Mx] at hbk
    have hgb := sumL_small (l := ctrP (i.po.take k)) (bnd_P (take_po hi.d)) (by simp [ctrP]; omega) (rPost i.po[k])
    rw [← hM] at hgb
    refine Pstep.go (st_indexD (k) rfl rfl (rfl) (getm hk1) Try.underlying30 rfl sz106 rfl) ?_
    refine Pstep.go (st_loadDS rfl rfl rw106 rfl) ?_
    refine Estep.go (st_alloc 3 zl106 rfl rfl rfl rfl) ?_
    refine Estep.go (st_storeP rfl rfl rfl rfl rfl rfl rfl sz106) ?_
    refine o_nil ?_
    refine a_drawn [[], [], [1], [1, 2], [0, 1, 2, 3], [], [5], [0, 1, 2, 3, 4, 5, 6], [0, 1, 2, 3, 5, 6], [0, 1, 2, 3, 5, 6, 8], [0, 1, 2, 3, 4, 5, 6, 7, 8, 9]] mixed rfl ?_
    refine dws2 2 ([mapC rscD intD (mtouch M (rPost i.po[k]) 0)]) rfl ?_
    refine d_pure [3] [] rfl rfl (fun _ => gp_none (st_move rfl rfl)) ?_
    refine d_pure [5] [] rfl rfl (fun _ => gp_none (st_fieldP rfl fi106_0 rfl rfl rfl)) ?_
    refine d_pureA [17] rfl rfl (fun _ => gp_none (st_loadPS rfl rfl rw41 rfl rfl rfl)) ?_
    refine d_pure [18] [] rfl rfl (fun _ => gp_none (st_build zl43 pl43 rfl rfl rfl)) ?_
    refine d_pure2 [16, 19] [] rfl rfl rfl (fun _ => gp_none (st_look (M) (rPost i.po[k]) (0) _ rfl rfl rfl mt115 kt43 za2 rfl rfl)) (fun _ => gp_none (st_look (mtouch (M) (rPost i.po[k]) (0)) (rPost i.po[k]) (0) _ rfl rfl rfl mt115 kt43 za2 (mget_touch _ _ _ _) rfl)) ?_
    refine d_pure [5] [] rfl rfl (fun _ => gp_none (st_fieldP rfl fi106_1 rfl rfl rfl)) ?_
    refine d_pureA [21] rfl rfl (fun _ => gp_none (st_loadP rfl rfl rfl on2 rfl)) ?_
    refine d_pure [20, 22] [] rfl rfl (fun _ => gp_none (st_add rfl rfl (IntWalk.i64_in _ (by omega)) rfl)) ?_
    refine d_eff [16, 19] [2] [(24, _)] rfl rfl (fun _ => ge_none (st_mapE (M) (rPost i.po[k]) (0) rfl rfl rfl mt115 kt43 za2 rfl rfl)) (.inr ⟨24, _, rfl, rfl, rfl, rfl, rfl⟩) rfl rfl rfl rfl rfl ?_ (hCn := c2_wr rfl)
    refine d_pure [24] [] rfl rfl (fun _ => gp_none (st_extract rfl rfl rfl)) ?_
    refine dwc 10 rfl rfl rfl ?_
    refine dw1 11 rfl rfl ?_
    refine Estep.go (st_entS (M) (rPost i.po[k]) (0) (mget M (rPost i.po[k]) 0 + i.po[k].d) rfl rfl rfl kt43 rfl rfl) ?_
    refine o_nil ⟨rfl, ?_⟩
    refine dwe ?_
    refine a_region ?_
    refine Pstep.go (st_add rfl rfl (wrapS (k + 1) (by omega)) rfl) ?_
    refine Pstep.go (st_move rfl rfl) ?_
    refine o_nil ?_
    exact ⟨(k + 1, _), ⟨by show k + 1 ≤ _; omega, by show _ = sumL (ctrP (i.po.take (k + 1))); rw [ctrP_snoc hk1, sumL_snoc, ← hM]; rfl⟩, by show i.po.length - (k + 1) < i.po.length - k; omega, lep_of hF [2, 1] rfl (rfl) ⟨rfl, rfl, rfl, rfl, rfl, trivial⟩⟩
  · refine a_exit ?_
    refine a_seq ?_
    refine a_seq ?_
    have hM0 : M = sumL (ctrP i.po ++ ctrY (i.pa.take 0)) := by rw [hM, List.take_of_length_le (by have h := h13; omega)]; simp [ctrY]
    refine a_region ?_
    refine Pstep.go (st_fieldP rfl fi33_4 rfl rfl rfl) ?_
    refine Pstep.go (st_loadP rfl rfl rfl on31 rfl) ?_
    refine Pstep.go (st_lenMap rfl Try.underlying31 rfl) ?_
    refine Pstep.go (st_move rfl rfl) ?_
    refine o_nil ?_
    refine a_block ?_
    refine a_loopP (α := Nat × List (Rsc × Int)) (fun q => ⟨80, [(3, (.map 2 0)), (28, (.d (.sl none (i.pa.map payD)))), (29, (.d (intD (i.pa.length : Int)))), (30, (.d (intD (q.1 : Int))))], [(2, [mapC rscD intD q.2])]⟩) (fun q => q.1 ≤ i.pa.length ∧ q.2 = sumL (ctrP i.po ++ ctrY (i.pa.take q.1))) (fun q => i.pa.length - q.1) ((0, M)) (⟨Nat.zero_le _, hM0⟩) (lep_of hF [2] rfl rfl ⟨rfl, rfl, rfl, rfl, trivial⟩) ?_
    rintro ⟨m, N⟩ ⟨hm0, hN⟩
    dsimp only at hm0 hN ⊢
    refine a_seq ?_
    refine a_region ?_
    refine Pstep.go (st_lss rfl rfl rfl) ?_
    refine o_nil ?_
    refine a_seq ?_
    refine a_if rfl (fun h31 => ?_) (fun h31 => ?_)
    · have hm1 : m < i.pa.length := lt_cast h31
      refine a_skip ?_
      refine a_seq ?_
      refine a_block ?_
      refine a_seq ?_
      refine a_region ?_
      have hbm := hi.n _ (List.getElem_mem hm1)
      have hsm := st_small hN ((bnd_P hi.d).append (bnd_Y fun q hq => hi.n q (List.mem_of_mem_take hq))) (by rw [List.length_append, ctrY_length]; simp [ctrP]; omega) hbm
      simp only [Mx] at hbm
      refine Pstep.go (st_indexD (m) rfl rfl (rfl) (getm hm1) Try.underlying31 rfl sz108 rfl) ?_
      refine Pstep.go (st_loadDS rfl rfl rw108 rfl) ?_
      refine Estep.go (st_alloc 4 zl108 rfl rfl rfl rfl) ?_
      refine Estep.go (st_storeP rfl rfl rfl rfl rfl rfl rfl sz108) ?_
      refine o_nil ?_
      refine a_seq ?_
      refine a_drawn [[], [], [1], [], [3], [1, 2, 3, 4], [0, 1, 2, 3, 4, 5], [], [7], [0, 1, 2, 3, 4, 5, 6, 7, 8], [0, 1, 2, 3, 4, 5, 7, 8], [0, 1, 2, 3, 4, 5, 7, 8, 10], [0, 1, 2, 3, 4, 5, 6, 7, 8, 9, 10, 11]] mixed rfl ?_
      refine dws2 2 ([mapC rscD intD (mtouch N (rBil i.pa[m].f i.pa[m].t) 0)]) rfl ?_
      refine d_pure [3] [] rfl rfl (fun _ => gp_none (st_move rfl rfl)) ?_
      refine d_pure [7] [] rfl rfl (fun _ => gp_none (st_fieldP rfl fi108_0 rfl rfl rfl)) ?_
      refine d_pureA [35] rfl rfl (fun _ => gp_none (st_loadP rfl rfl rfl on9 rfl)) ?_
      refine d_pure [7] [] rfl rfl (fun _ => gp_none (st_fieldP rfl fi108_1 rfl rfl rfl)) ?_
      refine d_pureA [37] rfl rfl (fun _ => gp_none (st_loadP rfl rfl rfl on9 rfl)) ?_
      refine d_pure [36, 38] [] rfl rfl (fun _ => gp_none (st_build zl43 pl43 rfl rfl rfl)) ?_
      refine d_pure2 [34, 39] [] rfl rfl rfl (fun _ => gp_none (st_look (N) (rBil i.pa[m].f i.pa[m].t) (0) _ rfl rfl rfl mt115 kt43 za2 rfl rfl)) (fun _ => gp_none (st_look (mtouch (N) (rBil i.pa[m].f i.pa[m].t) (0)) (rBil i.pa[m].f i.pa[m].t) (0) _ rfl rfl rfl mt115 kt43 za2 (mget_touch _ _ _ _) rfl)) ?_
      refine d_pure [7] [] rfl rfl (fun _ => gp_none (st_fieldP rfl fi108_2 rfl rfl rfl)) ?_
      refine d_pureA [41] rfl rfl (fun _ => gp_none (st_loadP rfl rfl rfl on2 rfl)) ?_
      have g := (hsm (rBil i.pa[m].f i.pa[m].t)).1
      refine d_pure [40, 42] [] rfl rfl (fun _ => gp_none (st_sub rfl rfl (IntWalk.i64_in _ (by omega)) rfl)) ?_
      refine d_eff [34, 39] [2] [(44, _)] rfl rfl (fun _ => ge_none (st_mapE (N) (rBil i.pa[m].f i.pa[m].t) (0) rfl rfl rfl mt115 kt43 za2 rfl rfl)) (.inr ⟨44, _, rfl, rfl, rfl, rfl, rfl⟩) rfl rfl rfl rfl rfl ?_ (hCn := c2_wr rfl)
      refine d_pure [44] [] rfl rfl (fun _ => gp_none (st_extract rfl rfl rfl)) ?_
      refine dwc 12 rfl rfl rfl ?_
      refine dw1 13 rfl rfl ?_
      refine Estep.go (st_entS (N) (rBil i.pa[m].f i.pa[m].t) (0) (mget N (rBil i.pa[m].f i.pa[m].t) 0 - i.pa[m].n) rfl rfl rfl kt43 rfl rfl) ?_
      refine o_nil ⟨rfl, ?_⟩
      refine dwe ?_
      refine a_seq ?_
      refine a_drawn [[], [], [1], [], [3], [1, 2, 3, 4], [0, 1, 2, 3, 4, 5], [], [7], [0, 1, 2, 3, 4, 5, 6, 7, 8], [0, 1, 2, 3, 4, 5, 7, 8], [0, 1, 2, 3, 4, 5, 7, 8, 10], [0, 1, 2, 3, 4, 5, 6, 7, 8, 9, 10, 11]] mixed rfl ?_
      refine dws2 2 ([mapC rscD intD (mtouch (st1 N i.pa[m]) (rBil i.pa[m].t i.pa[m].f) 0)]) rfl ?_
      refine d_pure [3] [] rfl rfl (fun _ => gp_none (st_move rfl rfl)) ?_
      refine d_pure [7] [] rfl rfl (fun _ => gp_none (st_fieldP rfl fi108_1 rfl rfl rfl)) ?_
      refine d_pureA [47] rfl rfl (fun _ => gp_none (st_loadP rfl rfl rfl on9 rfl)) ?_
      refine d_pure [7] [] rfl rfl (fun _ => gp_none (st_fieldP rfl fi108_0 rfl rfl rfl)) ?_
      refine d_pureA [49] rfl rfl (fun _ => gp_none (st_loadP rfl rfl rfl on9 rfl)) ?_
      refine d_pure [48, 50] [] rfl rfl (fun _ => gp_none (st_build zl43 pl43 rfl rfl rfl)) ?_
      refine d_pure2 [46, 51] [] rfl rfl rfl (fun _ => gp_none (st_look (st1 N i.pa[m]) (rBil i.pa[m].t i.pa[m].f) (0) _ rfl rfl rfl mt115 kt43 za2 rfl rfl)) (fun _ => gp_none (st_look (mtouch (st1 N i.pa[m]) (rBil i.pa[m].t i.pa[m].f) (0)) (rBil i.pa[m].t i.pa[m].f) (0) _ rfl rfl rfl mt115 kt43 za2 (mget_touch _ _ _ _) rfl)) ?_
      refine d_pure [7] [] rfl rfl (fun _ => gp_none (st_fieldP rfl fi108_2 rfl rfl rfl)) ?_
      refine d_pureA [53] rfl rfl (fun _ => gp_none (st_loadP rfl rfl rfl on2 rfl)) ?_
      have g := (hsm (rBil i.pa[m].t i.pa[m].f)).2.1
      refine d_pure [52, 54] [] rfl rfl (fun _ => gp_none (st_add rfl rfl (IntWalk.i64_in _ (by omega)) rfl)) ?_
      refine d_eff [46, 51] [2] [(56, _)] rfl rfl (fun _ => ge_none (st_mapE (st1 N i.pa[m]) (rBil i.pa[m].t i.pa[m].f) (0) rfl rfl rfl mt115 kt43 za2 rfl rfl)) (.inr ⟨56, _, rfl, rfl, rfl, rfl, rfl⟩) rfl rfl rfl rfl rfl ?_ (hCn := c2_wr rfl)
      refine d_pure [56] [] rfl rfl (fun _ => gp_none (st_extract rfl rfl rfl)) ?_
      refine dwc 12 rfl rfl rfl ?_
      refine dw1 13 rfl rfl ?_
      refine Estep.go (st_entS (st1 N i.pa[m]) (rBil i.pa[m].t i.pa[m].f) (0) (mget (st1 N i.pa[m]) (rBil i.pa[m].t i.pa[m].f) 0 + i.pa[m].n) rfl rfl rfl kt43 rfl rfl) ?_
      refine o_nil ⟨rfl, ?_⟩
      refine dwe ?_
      refine a_seq ?_
      refine a_drawn [[], [], [1], [1, 2], [0, 1, 2, 3], [], [5], [0, 1, 2, 3, 4, 5, 6], [0, 1, 2, 3, 5, 6], [0, 1, 2, 3, 5, 6, 8], [0, 1, 2, 3, 4, 5, 6, 7, 8, 9]] mixed rfl ?_
      refine dws2 2 ([mapC rscD intD (mtouch (st2 (st1 N i.pa[m]) i.pa[m]) (rMul i.pa[m].f) 0)]) rfl ?_
      refine d_pure [3] [] rfl rfl (fun _ => gp_none (st_move rfl rfl)) ?_
      refine d_pure [7] [] rfl rfl (fun _ => gp_none (st_fieldP rfl fi108_0 rfl rfl rfl)) ?_
      refine d_pureA [59] rfl rfl (fun _ => gp_none (st_loadP rfl rfl rfl on9 rfl)) ?_
      refine d_pure [60] [] rfl rfl (fun _ => gp_none (st_build zl43 pl43 rfl rfl rfl)) ?_
      refine d_pure2 [58, 61] [] rfl rfl rfl (fun _ => gp_none (st_look (st2 (st1 N i.pa[m]) i.pa[m]) (rMul i.pa[m].f) (0) _ rfl rfl rfl mt115 kt43 za2 rfl rfl)) (fun _ => gp_none (st_look (mtouch (st2 (st1 N i.pa[m]) i.pa[m]) (rMul i.pa[m].f) (0)) (rMul i.pa[m].f) (0) _ rfl rfl rfl mt115 kt43 za2 (mget_touch _ _ _ _) rfl)) ?_
      refine d_pure [7] [] rfl rfl (fun _ => gp_none (st_fieldP rfl fi108_2 rfl rfl rfl)) ?_
      refine d_pureA [63] rfl rfl (fun _ => gp_none (st_loadP rfl rfl rfl on2 rfl)) ?_
      have g := (hsm (rMul i.pa[m].f)).2.2.1
      refine d_pure [62, 64] [] rfl rfl (fun _ => gp_none (st_sub rfl rfl (IntWalk.i64_in _ (by omega)) rfl)) ?_
      refine d_eff [58, 61] [2] [(66, _)] rfl rfl (fun _ => ge_none (st_mapE (st2 (st1 N i.pa[m]) i.pa[m]) (rMul i.pa[m].f) (0) rfl rfl rfl mt115 kt43 za2 rfl rfl)) (.inr ⟨66, _, rfl, rfl, rfl, rfl, rfl⟩) rfl rfl rfl rfl rfl ?_ (hCn := c2_wr rfl)
      refine d_pure [66] [] rfl rfl (fun _ => gp_none (st_extract rfl rfl rfl)) ?_
      refine dwc 10 rfl rfl rfl ?_
      refine dw1 11 rfl rfl ?_
      refine Estep.go (st_entS (st2 (st1 N i.pa[m]) i.pa[m]) (rMul i.pa[m].f) (0) (mget (st2 (st1 N i.pa[m]) i.pa[m]) (rMul i.pa[m].f) 0 - i.pa[m].n) rfl rfl rfl kt43 rfl rfl) ?_
      refine o_nil ⟨rfl, ?_⟩
      refine dwe ?_
      refine a_drawn [[], [], [1], [1, 2], [0, 1, 2, 3], [], [5], [0, 1, 2, 3, 4, 5, 6], [0, 1, 2, 3, 5, 6], [0, 1, 2, 3, 5, 6, 8], [0, 1, 2, 3, 4, 5, 6, 7, 8, 9]] mixed rfl ?_
      refine dws2 2 ([mapC rscD intD (mtouch (st3 (st2 (st1 N i.pa[m]) i.pa[m]) i.pa[m]) (rMul i.pa[m].t) 0)]) rfl ?_
      refine d_pure [3] [] rfl rfl (fun _ => gp_none (st_move rfl rfl)) ?_
      refine d_pure [7] [] rfl rfl (fun _ => gp_none (st_fieldP rfl fi108_1 rfl rfl rfl)) ?_
      refine d_pureA [69] rfl rfl (fun _ => gp_none (st_loadP rfl rfl rfl on9 rfl)) ?_
      refine d_pure [70] [] rfl rfl (fun _ => gp_none (st_build zl43 pl43 rfl rfl rfl)) ?_
      refine d_pure2 [68, 71] [] rfl rfl rfl (fun _ => gp_none (st_look (st3 (st2 (st1 N i.pa[m]) i.pa[m]) i.pa[m]) (rMul i.pa[m].t) (0) _ rfl rfl rfl mt115 kt43 za2 rfl rfl)) (fun _ => gp_none (st_look (mtouch (st3 (st2 (st1 N i.pa[m]) i.pa[m]) i.pa[m]) (rMul i.pa[m].t) (0)) (rMul i.pa[m].t) (0) _ rfl rfl rfl mt115 kt43 za2 (mget_touch _ _ _ _) rfl)) ?_
      refine d_pure [7] [] rfl rfl (fun _ => gp_none (st_fieldP rfl fi108_2 rfl rfl rfl)) ?_
      refine d_pureA [73] rfl rfl (fun _ => gp_none (st_loadP rfl rfl rfl on2 rfl)) ?_
      have g := (hsm (rMul i.pa[m].t)).2.2.2
      refine d_pure [72, 74] [] rfl rfl (fun _ => gp_none (st_add rfl rfl (IntWalk.i64_in _ (by omega)) rfl)) ?_
      refine d_eff [68, 71] [2] [(76, _)] rfl rfl (fun _ => ge_none (st_mapE (st3 (st2 (st1 N i.pa[m]) i.pa[m]) i.pa[m]) (rMul i.pa[m].t) (0) rfl rfl rfl mt115 kt43 za2 rfl rfl)) (.inr ⟨76, _, rfl, rfl, rfl, rfl, rfl⟩) rfl rfl rfl rfl rfl ?_ (hCn := c2_wr rfl)
      refine d_pure [76] [] rfl rfl (fun _ => gp_none (st_extract rfl rfl rfl)) ?_
      refine dwc 10 rfl rfl rfl ?_
      refine dw1 11 rfl rfl ?_
      refine Estep.go (st_entS (st3 (st2 (st1 N i.pa[m]) i.pa[m]) i.pa[m]) (rMul i.pa[m].t) (0) (mget (st3 (st2 (st1 N i.pa[m]) i.pa[m]) i.pa[m]) (rMul i.pa[m].t) 0 + i.pa[m].n) rfl rfl rfl kt43 rfl rfl) ?_
      refine o_nil ⟨rfl, ?_⟩
      refine dwe ?_
      refine a_region ?_
      refine Pstep.go (st_add rfl rfl (wrapS (m + 1) (by omega)) rfl) ?_
      refine Pstep.go (st_move rfl rfl) ?_
      refine o_nil ?_
      exact ⟨(m + 1, _), ⟨by show m + 1 ≤ _; omega, by show _ = sumL (ctrP i.po ++ ctrY (i.pa.take (m + 1))); rw [ctrY_snoc hm1, ← List.append_assoc]; exact (st_all hN).2.2.2⟩, by show i.pa.length - (m + 1) < i.pa.length - m; omega, lep_of hF [2] rfl (rfl) ⟨rfl, rfl, rfl, rfl, trivial⟩⟩
    · refine a_exit ?_
      refine a_seq ?_
      refine a_region ?_
      refine Pstep.go (st_move rfl rfl) ?_
      refine Pstep.go (st_assign rfl rfl) ?_
      refine o_nil ?_
      refine a_ret ?_
      exact ⟨_, [2], _, res_of rfl, rfl, rfl, rfl, by rw [hN, List.take_of_length_le (by have h := h31; omega)] <;> rfl⟩
end Go.Proofs.Ytfmpiabmnjmobaa
