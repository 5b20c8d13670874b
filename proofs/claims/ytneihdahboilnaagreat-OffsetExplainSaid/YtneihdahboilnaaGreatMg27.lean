/- Layer 30: the reference: what a room lacks, what blocks an item. -/
import Derived.Test.YtneihdahboilnaaGreatMg26
namespace Go.Proofs.YtneihdahboilnaaGreat
open Go.RowKit

def overL (its : List Itm) (x : Roo) (l : List Int) : Int := max x.n 0 + ((its.filter fun i => decide (i.id ∈ l)).map fun i => dltE i x.r).sum
theorem overL_snoc {its : List Itm} {k : Nat} (hk : k < its.length) (x : Roo) (l : List Int) : overL (its.take (k + 1)) x l = overL (its.take k) x l + if its[k].id ∈ l then dltE its[k] x.r else 0 := by
  unfold overL;rw [ZbW hk]
  by_cases h : its[k].id ∈ l
  · rw [if_pos (by simpa using h), if_pos h, List.map_append, List.sum_append]; simp; omega
  · rw [if_neg (by simpa using h), if_neg h, List.append_nil]; omega
theorem dltE_bnd (i : Itm) (r : Rsc) : -1000000000000000 ≤ dltE i r ∧ dltE i r ≤ 1000000000000000 := by
  unfold dltE
  split
  · rename_i h
    have := bnd_sum h.1 r
    simpa [Mx] using this
  · omega
theorem overL_bnd (its : List Itm) (x : Roo) (l : List Int) : max x.n 0 - its.length * 1000000000000000 ≤ overL its x l ∧ overL its x l ≤ max x.n 0 + its.length * 1000000000000000 := by
  unfold overL
  induction its with
  | nil => simp
  | cons i its ih =>
    have h1 := dltE_bnd i x.r;rw [List.filter_cons];simp only [List.length_cons]
    split
    · simp only [List.map_cons, List.sum_cons]; omega
    · omega
set_option maxRecDepth 100000 in
theorem over_n (p : Prb) (x : Roo) (l : List Int) (hp : p.it.length ≤ 30) (hx : -100000000000000000 ≤ x.n ∧ x.n ≤ 100000000000000000) (hl : l.length ≤ 1000) (hi : ∀ i ∈ p.it, FewI i) : PCalls Tryz.prog 34 [.d (prbD p), .d (rooD x), .d (.sl none (l.map intD))] (intD (max 0 (-(overL p.it x l)))) := by
  have hmx : (if 0 > x.n then 0 else x.n) = max x.n 0 := by rw [Int.max_def]; split <;> split <;> omega
  refine Zaz Tryz.func34 rfl rfl Tryz.ntmps34 rfl rfl rfl fun F hF => (Zaf (Zab (Zal.go (ZaO 1 rfl rfl rfl rfl rfl rfl rfl) (Zal.go (ZaO 2 rfl rfl rfl rfl rfl rfl rfl) (Zaa.go (Zad rfl rfl) (Zae ?_))))));refine Zaf (Zab (Zaa.go (Zai rfl fi67_1 rfl rfl rfl) (Zaa.go (Zaj rfl rfl rfl on2 rfl) (Zaa.go (st_max rfl rfl (rfl) rfl) (Zaa.go (Zad rfl rfl) (Zae (Zaf (Zaf ?_))))))));have h00 : max x.n 0 = overL (p.it.take 0) x l := by unfold overL; simp
  rw [hmx, h00];refine Zab (Zaa.go (Zad rfl rfl) (Zae (Zar (ZaH (α := Nat) (fun k => ⟨40, [(2, .d (.sl none (l.map intD))), (3, (.ptr 1 0 0)), (4, (.ptr 2 0 0)), (7, (.d (intD (overL (p.it.take k) x l)))), (8, (.d (intD (k : Int))))], [(1, [.blk 25 [.d (.sl none (p.ro.map rooD)), .d (.sl none (p.it.map itmD))]]), (2, [.blk 67 [.d (intD x.r.k), .d (strD x.r.acc.o), .d (intD x.r.acc.k), .d (strD x.r.acc.a), .d (strD x.r.f), .d (strD x.r.t), .d (intD x.n)]])]⟩) (fun k => k ≤ p.it.length) (fun k => p.it.length - k) (0) (Nat.zero_le _) (Zat hF [1, 2] rfl rfl ⟨rfl, rfl, rfl, rfl, rfl, trivial⟩) ?_))));rintro k hk0;refine Zaf ?_;refine Zaf (Zab (Zaa.go (Zac rfl rfl) (Zaa.go (Zai rfl Zbd rfl rfl rfl) (Zaa.go (Zaj rfl rfl rfl on23 rfl) (Zaa.go (Zax rfl Tryz.underlying23 rfl) (Zaa.go (ZaG rfl rfl rfl) (Zae (ZaE rfl (fun h16 => ?_) (fun h16 => ?_)))))))))
  · have hk1 : k < p.it.length := ZaJ h16;refine Zaq (Zaf (Zar (Zaf ?_)));have hfi := hi _ (List.getElem_mem hk1);have hsn := overL_snoc hk1 x l;have hob := overL_bnd (p.it.take k) x l;rw [List.length_take] at hob;have hdb := dltE_bnd p.it[k] x.r;refine Zab (Zaa.go (Zac rfl rfl) ?_);refine Zaa.go (Zai rfl Zbd rfl rfl rfl) (Zaa.go (Zaj rfl rfl rfl on23 rfl) (Zaa.go (Zac rfl rfl) (Zaa.go (Zav (k) rfl rfl (rfl) (getm hk1) Tryz.underlying23 rfl sz64 rfl) (Zaa.go (Za3 rfl fi64_0 rfl rfl rfl) (Zaa.go (ZaF rfl rfl on3 rfl) (Zaa.go (Zan (has30_p l p.it[k].id (by omega)) rfl rfl) (Zae (ZaE rfl (fun h26 => ?_) (fun h26 => ?_)))))))))
    · refine ZaV [[], [], [1], [], [1, 2, 3], [1, 2, 3, 4], [], [6], [1, 2, 3, 4, 5, 6, 7], [0, 1, 2, 3, 4, 5, 6, 7, 8], [0, 1, 2, 3, 4, 5, 6, 7, 8, 9]] mixed rfl (dws (Zah [7] [] rfl rfl (fun _ => Zag (Zac rfl rfl)) (Zah [3] [] rfl rfl (fun _ => Zag (Zai rfl Zbd rfl rfl rfl)) (Zah [28] [1] rfl rfl (fun _ => Zag (Zaj rfl rfl rfl on23 rfl)) (Zah [8] [] rfl rfl (fun _ => Zag (Zac rfl rfl)) ?_)))));refine Zah [29, 30] [] rfl rfl (fun _ => Zag (Zav (k) rfl rfl (rfl) (getm hk1) Tryz.underlying23 rfl sz64 rfl)) (Zah [31] [] rfl rfl (fun _ => Zag (ZaP rfl rfl rw64 rfl)) (Zah [4] [] rfl rfl (fun _ => Zag (Zai rfl fi67_0 rfl rfl rfl)) (Zah [33] [2] rfl rfl (fun _ => Zag (Zap rfl rfl rw56 rfl rfl rfl)) (Zah [32, 34] [] rfl rfl (fun _ => Zag (Zan (refdelta_p p.it[k] x.r (by have h := hfi.1; omega) (by have h := hfi.2.1; omega) (by have h := hfi.2.2; omega)) rfl rfl)) (dwc 9 rfl rfl rfl (dw1 10 rfl rfl (Zaa.go (Zay rfl rfl (IntWalk.i64_in _ (by omega)) rfl) (Zae ⟨rfl, ?_⟩))))))));refine dw1 11 rfl rfl (Zaa.go (Zad rfl rfl) (Zae ⟨rfl, ?_⟩));refine dwe ?_
      first | rw [if_pos (by simpa using h26)] at hsn | rw [if_neg (by simpa using h26), Int.add_zero] at hsn
      rw [← hsn];refine Zab (Zaa.go (Zac rfl rfl) (Zaa.go (Zay rfl rfl (wrapS (k + 1) (by omega)) rfl) (Zaa.go (Zad rfl rfl) (Zae ?_))));exact ⟨k + 1, (by show k + 1 ≤ _; omega), by show p.it.length - (k + 1) < p.it.length - k; omega, Zat hF [1, 2] rfl (rfl) ⟨rfl, rfl, rfl, rfl, rfl, trivial⟩⟩
    · refine Zaq ?_
      first | rw [if_pos (by simpa using h26)] at hsn | rw [if_neg (by simpa using h26), Int.add_zero] at hsn
      rw [← hsn];refine Zab (Zaa.go (Zac rfl rfl) (Zaa.go (Zay rfl rfl (wrapS (k + 1) (by omega)) rfl) (Zaa.go (Zad rfl rfl) (Zae ?_))));exact ⟨k + 1, (by show k + 1 ≤ _; omega), by show p.it.length - (k + 1) < p.it.length - k; omega, Zat hF [1, 2] rfl (rfl) ⟨rfl, rfl, rfl, rfl, rfl, trivial⟩⟩
  · refine ZaI (Zaf ?_);have hob := overL_bnd p.it x l;rw [List.take_of_length_le (by have h := h16; omega)];refine Zab (Zaa.go (Zac rfl rfl) (Zaa.go (st_neg rfl (IntWalk.i64_in _ (by omega)) rfl) (Zaa.go (st_max rfl rfl (rfl) rfl) (Zaa.go (Zad rfl rfl) (Zae (Zas ?_))))));exact ⟨_, [], [], Zao rfl, rfl, rfl, by rw [show (max 0 (-(overL p.it x l)) : Int) = if 0 - overL p.it x l > 0 then 0 - overL p.it x l else 0 by rw [Int.max_def]; split <;> split <;> omega], rfl⟩
theorem over_p (p : Prb) (x : Roo) (l : List Int) (hp : p.it.length ≤ 30) (hx : -4000000000000000 ≤ x.n ∧ x.n ≤ 4000000000000000) (hl : l.length ≤ 1000) (hi : ∀ i ∈ p.it, FewI i) : PCalls Tryz.prog 34 [.d (prbD p), .d (rooD x), .d (.sl none (l.map intD))] (intD (max 0 (-(overL p.it x l)))) := over_n p x l hp (by omega) hl hi
abbrev excRD (o : Option Exc) : D := .tup [excD (o.getD exc0), boolD o.isSome]
abbrev excX (e : Exc) : AObj := .blk 58 [.d (intD e.id), .d (intD e.re), .d (intD e.r.k), .d (strD e.r.acc.o), .d (intD e.r.acc.k), .d (strD e.r.acc.a), .d (strD e.r.f), .d (strD e.r.t), .d (intD e.by_)]
def blkR (its : List Itm) (l : List Int) (id : Int) (x : Roo) : Option Exc := if id ∈ qIds its x.r then (((qIds its x.r).takeWhile fun a => decide (a ≠ id)).find? fun a => decide (a ∉ l)).map fun a => ⟨id, 1, x.r, a⟩ else none
def blockR (p : Prb) (l : List Int) (id : Int) : Option Exc := match (rosS p).findSome? (blkR (sortO p.it) l id) with
  | some e => some e
  | none => ((itmOf p id).af.find? fun a => decide (a ∉ l)).map fun a => ⟨id, 2, rscZ, a⟩
theorem tw_take {α : Type} {p : α → Bool} : ∀ {l : List α} {m : Nat} (hm : m < l.length), (∀ a ∈ l.take m, p a = true) → p l[m] = false → l.takeWhile p = l.take m
  | a :: l, 0, _, _, h => by simp at h; simp [h]
  | a :: l, m + 1, hm, h0, h => by
    have h1 : p a = true := h0 a (by simp);have ih := tw_take (l := l) (m := m) (by simpa using hm) (fun x hx => h0 x (by simp [hx])) (by simpa using h);rw [List.takeWhile_cons, h1, List.take_succ_cons, ← ih]; rfl
theorem tw_find {α : Type} {p q : α → Bool} : ∀ {l : List α} {m : Nat} (hm : m < l.length), (∀ a ∈ l.take m, p a = true ∧ q a = false) → p l[m] = true → q l[m] = true → (l.takeWhile p).find? q = some l[m]
  | a :: l, 0, _, _, h1, h2 => by simp at h1 h2; simp [h1, h2]
  | a :: l, m + 1, hm, h0, h1, h2 => by
    have h3 := h0 a (by simp);have ih := tw_find (l := l) (m := m) (by simpa using hm) (fun x hx => h0 x (by simp [hx])) (by simpa using h1) (by simpa using h2);rw [List.takeWhile_cons, h3.1];simp only [if_true, List.find?_cons, h3.2]
    simpa using ih
theorem blk_none {S : List Itm} {l : List Int} {id : Int} {x : Roo} {Q : List Int} (hQ : qIds S x.r = Q) (hidQ : id ∈ Q) {m : Nat} (hm : m < Q.length) (h0 : ∀ a ∈ Q.take m, a ≠ id ∧ a ∈ l) (h1 : Q[m] = id) : blkR S l id x = none := by
  unfold blkR;rw [hQ, if_pos hidQ, tw_take hm (fun a ha => by simpa using (h0 a ha).1) (by simpa using h1), Zco (fun a ha => by simpa using (h0 a ha).2)]; rfl
theorem blk_some {S : List Itm} {l : List Int} {id : Int} {x : Roo} {Q : List Int} (hQ : qIds S x.r = Q) (hidQ : id ∈ Q) {m : Nat} (hm : m < Q.length) (h0 : ∀ a ∈ Q.take m, a ≠ id ∧ a ∈ l) (h1 : Q[m] ≠ id) (h2 : Q[m] ∉ l) : blkR S l id x = some ⟨id, 1, x.r, Q[m]⟩ := by
  unfold blkR;rw [hQ, if_pos hidQ, tw_find hm (fun a ha => ⟨by simpa using (h0 a ha).1, by simpa using (h0 a ha).2⟩) (by simpa using h1) (by simpa using h2)]; rfl
theorem blk_lt {Q : List Int} {id : Int} (hidQ : id ∈ Q) {m : Nat} (hm : m < Q.length) (h0 : ∀ a ∈ Q.take m, a ≠ id) (h1 : Q[m] ≠ id) : m + 1 < Q.length := by
  rcases Nat.lt_or_ge (m + 1) Q.length with h | h
  · exact h
  · exfalso
    have e : Q.take (m + 1) = Q := List.take_of_length_le h;rw [← e, List.take_succ_eq_append_getElem hm] at hidQ;rcases List.mem_append.1 hidQ with h2 | h2
    · exact h0 _ h2 rfl
    · exact h1 (List.mem_singleton.1 h2).symm
set_option maxRecDepth 100000 in
set_option maxHeartbeats 1000000 in
theorem blocked_n (p : Prb) (hf : FewP p) (hE : (p.ro.map Roo.r).Nodup) (l : List Int) (id : Int) (hl : l.length ≤ 1000) (hid : id ∈ p.it.map Itm.id) : PCalls Tryz.prog 42 [.d (prbD p), .d (.sl none (l.map intD)), .d (intD id)] (excRD (blockR p l id)) := by
  have hrm := rooms30_n p hE (by have := hf.r; omega);have hbr : ∀ e, (rosS p).findSome? (blkR (sortO p.it) l id) = some e → blockR p l id = some e := fun e h => by unfold blockR; rw [h]
  have hbn : (rosS p).findSome? (blkR (sortO p.it) l id) = none → blockR p l id = ((itmOf p id).af.find? fun a => decide (a ∉ l)).map fun a => ⟨id, 2, rscZ, a⟩ := fun h => by unfold blockR; rw [h]
  have hrl : (rosS p).length ≤ 100 := by rw [(ZbY p).length_eq]; exact hf.r
  have hil := hf.i;have hqf := fun (r : Rsc) => refqueue_p p r (by omega) (fun i hi => by have h := hf.x i ((Za9 p.it).mem_iff.1 hi); omega);have hql : ∀ r, (qIds (sortO p.it) r).length ≤ 30 := fun r => by unfold qIds; rw [List.length_map]; have := List.length_filter_le (fun i => decide (dltE i r < 0)) (sortO p.it); rw [ZbE] at this; omega
  obtain ⟨hfk, hfi, hfe, _⟩ := ZbO hid;have hfd := find_p p id (by omega);rw [hfi] at hfd;have hai := hf.x (itmOf p id) (by rw [hfe]; exact List.getElem_mem hfk)
  obtain ⟨ros, hros⟩ : ∃ ros, rosS p = ros := ⟨_, rfl⟩
  obtain ⟨S, hS⟩ : ∃ S, sortO p.it = S := ⟨_, rfl⟩
  rw [hros] at hrm hbr hbn hrl;rw [hS] at hbr hbn hqf hql;refine Zaz Tryz.func42 rfl rfl Tryz.ntmps42 rfl rfl rfl fun F hF => (Zaf ?_);refine Zab (Zal.go (ZaO 1 rfl rfl rfl rfl rfl rfl rfl) (Zal.go (ZaR 2 zl58 rfl rfl rfl rfl) (Zaa.go (Zad rfl rfl) (Zae (Zaf (Zab (Zaa.go (Zap rfl rfl rw25 rfl rfl rfl) (Zaa.go (Zan (hrm) rfl rfl) ?_))))))));refine Zaa.go (Zad rfl rfl) (Zae (Zaf (Zaf (Zab (Zaa.go (Zad rfl rfl) (Zae (Zar (ZaH (α := Nat) (fun k => ⟨89, [(1, .d (.sl none (l.map intD))), (2, .d (intD id)), (3, (.ptr 1 0 0)), (6, (.ptr 2 0 0)), (8, (.d (.sl none (ros.map rooD)))), (9, (.d (intD (k : Int))))], [(1, [prbB2 25 p]), (2, [excX exc0])]⟩) (fun k => k ≤ ros.length ∧ ∀ x ∈ ros.take k, blkR S l id x = none) (fun k => ros.length - k) (0) (⟨Nat.zero_le _, by simp⟩) (Zat hF [1, 2] rfl rfl ⟨rfl, rfl, rfl, rfl, rfl, rfl, trivial⟩) ?_))))))));rintro k ⟨hk0, hkb⟩;refine Zaf (Zaf (Zab (Zaa.go (Zac rfl rfl) (Zaa.go (Zac rfl rfl) (Zaa.go (Zax rfl Tryz.underlying22 rfl) (Zaa.go (ZaG rfl rfl rfl) (Zae (ZaE rfl (fun h19 => ?_) (fun h19 => ?_)))))))))
  · have hk1 : k < ros.length := ZaJ h19;refine Zaq (Zaf (Zar (Zaf ?_)))
    obtain ⟨Q, hQ⟩ : ∃ Q, qIds S ros[k].r = Q := ⟨_, rfl⟩
    have hqk := hqf ros[k].r;have hqlk := hql ros[k].r;rw [hQ] at hqk hqlk;refine ZaV [[], [], [], [1, 2], [1, 2, 3], [1, 2, 3, 4], [0, 1, 2, 3, 4, 5], [0, 1, 2, 3, 4, 5, 6]] mixed rfl (dws (Zah [3] [1] rfl rfl (fun _ => Zag (Zap rfl rfl rw25 rfl rfl rfl)) ?_));refine Zah [8] [] rfl rfl (fun _ => Zag (Zac rfl rfl)) (Zah [9] [] rfl rfl (fun _ => Zag (Zac rfl rfl)) (Zah [23, 24] [] rfl rfl (fun _ => Zag (Zav (k) rfl rfl (rfl) (getm hk1) Tryz.underlying22 rfl sz67 rfl)) (Zah [25] [] rfl rfl (fun _ => Zag (Zbb rfl fi67_0 rfl rfl rfl)) (Zah [26] [] rfl rfl (fun _ => Zag (ZaP rfl rfl rw56 rfl)) (dwc 6 rfl rfl rfl (dw1 7 rfl rfl (Zaa.go (Zan (hqk) rfl rfl) (Zae ⟨rfl, ?_⟩))))))));refine dw1 8 rfl rfl (Zaa.go (Zad rfl rfl) (Zae ⟨rfl, ?_⟩));refine dwe ?_;refine Zaf (Zaf (Zab (Zaa.go (Zac rfl rfl) (Zaa.go (Zac rfl rfl) (Zaa.go (Zan (has30_p Q id (by omega)) rfl rfl) (Zaa.go (Zbp rfl rfl) (Zae (ZaE rfl (fun h32 => ?_) (fun h32 => ?_)))))))))
    · refine ZaI (Zab (Zaa.go (Zac rfl rfl) (Zaa.go (Zay rfl rfl (wrapS (k + 1) (by omega)) rfl) (Zaa.go (Zad rfl rfl) (Zae ?_)))));exact ⟨k + 1, ⟨by show k + 1 ≤ _; omega, by rw [List.take_succ_eq_append_getElem hk1]; intro e he; rcases List.mem_append.1 he with he | he; exact hkb e he; rw [List.mem_singleton.1 he]; unfold blkR; rw [hQ, if_neg (by simpa using h32)]⟩, by show ros.length - (k + 1) < ros.length - k; omega, Zat hF [1, 2] rfl (rfl) ⟨rfl, rfl, rfl, rfl, rfl, rfl, trivial⟩⟩
    · refine Zaq (Zaf ?_);have hidQ : id ∈ Q := by simpa using h32
      refine Zab (Zaa.go (Zad rfl rfl) (Zae (Zar (ZaH (α := Nat) (fun m => ⟨89, [(1, .d (.sl none (l.map intD))), (2, .d (intD id)), (3, (.ptr 1 0 0)), (6, (.ptr 2 0 0)), (8, (.d (.sl none (ros.map rooD)))), (9, (.d (intD (k : Int)))), (10, (.d (.sl none (Q.map intD)))), (11, (.d (intD (m : Int))))], [(1, [prbB2 25 p]), (2, [excX exc0])]⟩) (fun m => m < Q.length ∧ ∀ a ∈ Q.take m, a ≠ id ∧ a ∈ l) (fun m => Q.length - m) (0) (⟨List.length_pos_of_mem hidQ, by simp⟩) (Zat hF [1, 2] rfl rfl ⟨rfl, rfl, rfl, rfl, rfl, rfl, rfl, rfl, trivial⟩) ?_))));rintro m ⟨hm1, hma⟩;refine Zaf (Zaf ?_);refine Zab (Zaa.go (Zac rfl rfl) (Zaa.go (Zac rfl rfl) (Zaa.go (Zav (m) rfl rfl (rfl) (getm hm1) Tryz.underlying28 rfl sz3 rfl) (Zaa.go (ZaF rfl rfl on3 rfl) (Zaa.go (Zac rfl rfl) (Zaa.go (ZaX rfl rfl rfl) (Zae (ZaE rfl (fun h38 => ?_) (fun h38 => ?_)))))))))
      · refine Zaq (Zaf (Zar (Zaf (Zab ?_))));refine Zaa.go (Zac rfl rfl) (Zaa.go (Zac rfl rfl) (Zaa.go (Zac rfl rfl) (Zaa.go (Zav (m) rfl rfl (rfl) (getm hm1) Tryz.underlying28 rfl sz3 rfl) (Zaa.go (ZaF rfl rfl on3 rfl) (Zaa.go (Zan (has30_p l Q[m] (by omega)) rfl rfl) (Zaa.go (Zbp rfl rfl) (Zae (ZaE rfl (fun h47 => ?_) (fun h47 => ?_)))))))))
        · refine Zaf (ZaV [[], [], [], [1, 2], [1, 2, 3], [1, 2, 3, 4], [], [], [6, 7], [6, 7, 8], [0, 1, 2, 3, 4, 5, 6, 7, 8, 9], [0, 1, 2, 3, 4, 5, 6, 7, 8, 9, 10], [0, 1, 2, 3, 4, 5, 6, 7, 8, 9, 10, 11]] mixed rfl (dws (Zah [2] [] rfl rfl (fun _ => Zag (Zac rfl rfl)) (Zah [8] [] rfl rfl (fun _ => Zag (Zac rfl rfl)) (Zah [9] [] rfl rfl (fun _ => Zag (Zac rfl rfl)) (Zah [49, 50] [] rfl rfl (fun _ => Zag (Zav (k) rfl rfl (rfl) (getm hk1) Tryz.underlying22 rfl sz67 rfl)) (Zah [51] [] rfl rfl (fun _ => Zag (Zbb rfl fi67_0 rfl rfl rfl)) ?_)))))));refine Zah [52] [] rfl rfl (fun _ => Zag (ZaP rfl rfl rw56 rfl)) (Zah [10] [] rfl rfl (fun _ => Zag (Zac rfl rfl)) (Zah [11] [] rfl rfl (fun _ => Zag (Zac rfl rfl)) (Zah [54, 55] [] rfl rfl (fun _ => Zag (Zav (m) rfl rfl (rfl) (getm hm1) Tryz.underlying28 rfl sz3 rfl)) (Zah [56] [] rfl rfl (fun _ => Zag (ZaF rfl rfl on3 rfl)) (dwc 10 rfl rfl rfl (dw1 11 rfl rfl (Zaa.go (Za0 zl58 pl58 rfl rfl rfl) (Zae ⟨rfl, ?_⟩))))))));refine dw1 12 rfl rfl (Zal.go (ZaA rfl rfl rfl rfl rfl rfl rfl sz58) (Zae ⟨rfl, ?_⟩));refine dw1 13 rfl rfl (Zaa.go (Zad rfl rfl) (Zae ⟨rfl, ?_⟩));refine dwe (Zas ?_);exact ⟨_, [], [], Zao rfl, rfl, rfl, by rw [hbr _ (findSome_at hk1 hkb (blk_some hQ hidQ hm1 hma (by simpa using h38) (by simpa using h47)))]; rfl, rfl⟩
        · refine Zaq (Zab (Zaa.go (Zac rfl rfl) (Zaa.go (Zay rfl rfl (wrapS (m + 1) (by omega)) rfl) (Zaa.go (Zad rfl rfl) (Zae ?_)))));exact ⟨m + 1, ⟨blk_lt hidQ hm1 (fun a ha => (hma a ha).1) (by simpa using h38), by rw [List.take_succ_eq_append_getElem hm1]; intro e he; rcases List.mem_append.1 he with he | he; exact hma e he; rw [List.mem_singleton.1 he]; exact ⟨by simpa using h38, by simpa using h47⟩⟩, by show Q.length - (m + 1) < Q.length - m; omega, Zat hF [1, 2] rfl (rfl) ⟨rfl, rfl, rfl, rfl, rfl, rfl, rfl, rfl, trivial⟩⟩
      · refine ZaI (Zab (Zaa.go (Zac rfl rfl) (Zaa.go (Zay rfl rfl (wrapS (k + 1) (by omega)) rfl) (Zaa.go (Zad rfl rfl) (Zae ?_)))));exact ⟨k + 1, ⟨by show k + 1 ≤ _; omega, by rw [List.take_succ_eq_append_getElem hk1]; intro e he; rcases List.mem_append.1 he with he | he; exact hkb e he; rw [List.mem_singleton.1 he]; exact blk_none hQ hidQ hm1 hma (by simpa using h38)⟩, by show ros.length - (k + 1) < ros.length - k; omega, Zat hF [1, 2] rfl (rfl) ⟨rfl, rfl, rfl, rfl, rfl, rfl, trivial⟩⟩
  · refine ZaI (Zaf ?_);have hrn := hbn (findSome_no (by have e : k = ros.length := (by have h := h19; omega); rw [e, List.take_length] at hkb; exact hkb));have hgm : (p.it.map itmD)[List.idxOf id (p.it.map Itm.id)]? = some (itmD (itmOf p id)) := by rw [getm hfk, hfe]
    obtain ⟨X, hX⟩ : ∃ X, itmOf p id = X := ⟨_, rfl⟩
    rw [hX] at hgm hrn hai;refine ZaV [[], [0], [], [], [2, 3], [0, 1, 2, 3, 4], [0, 1, 2, 3, 4, 5], [], [0, 1, 2, 3, 4, 5, 6, 7]] mixed rfl (dws (Zah [3] [] rfl rfl (fun _ => Zag (Zai rfl Zbd rfl rfl rfl)) (Zah [59] [1] rfl rfl (fun _ => Zag (Zaj rfl rfl rfl on23 rfl)) (Zah [3] [1] rfl rfl (fun _ => Zag (Zap rfl rfl rw25 rfl rfl rfl)) ?_))));refine Zah [2] [] rfl rfl (fun _ => Zag (Zac rfl rfl)) (Zah [61, 62] [] rfl rfl (fun _ => Zag (Zan (hfd) rfl rfl)) (Zah [60, 63] [] rfl rfl (fun _ => Zag (Zav (List.idxOf id (p.it.map Itm.id)) rfl rfl (rfl) (hgm) Tryz.underlying23 rfl sz64 rfl)) (Zah [64] [] rfl rfl (fun _ => Zag (ZaP rfl rfl rw64 rfl)) (Zbi [] [3] [(12, _)] rfl rfl (fun _ => Za7 (ZaR 3 zl64 rfl rfl rfl rfl)) (.inr ⟨12, _, rfl, rfl, rfl, rfl, rfl⟩) rfl rfl rfl rfl rfl (dwc 8 rfl rfl rfl (dw1 9 rfl rfl (Zal.go (ZaA rfl rfl rfl rfl rfl rfl rfl sz64) (Zae ⟨rfl, ?_⟩))))))));refine dwe (Zaf (Zaf (Zab (Zaa.go (Zad rfl rfl) (Zae (Zar (ZaH (α := Nat) (fun j => ⟨89, [(1, .d (.sl none (l.map intD))), (2, .d (intD id)), (6, (.ptr 2 0 0)), (12, (.ptr 3 0 0)), (13, (.d (intD (j : Int))))], [(2, [excX exc0]), (3, [.blk 64 [.d (intD X.id), .d (intD X.pr), .d (intD X.sq), .d (.sl none (X.po.map postD)), .d (.sl none (X.pa.map payD)), .d (.sl none (X.af.map intD))]])]⟩) (fun j => j ≤ X.af.length ∧ ∀ a ∈ X.af.take j, a ∈ l) (fun j => X.af.length - j) (0) (⟨Nat.zero_le _, by simp⟩) (Zat hF [2, 3] rfl rfl ⟨rfl, rfl, rfl, rfl, rfl, trivial⟩) ?_)))))));rintro j ⟨hj0, hja⟩;refine Zaf ?_;refine Zaf (Zab (Zaa.go (Zac rfl rfl) (Zaa.go (Zai rfl ZbX rfl rfl rfl) (Zaa.go (Zaj rfl rfl rfl on28 rfl) (Zaa.go (Zax rfl Tryz.underlying28 rfl) (Zaa.go (ZaG rfl rfl rfl) (Zae (ZaE rfl (fun h70 => ?_) (fun h70 => ?_)))))))))
    · have hj1 : j < X.af.length := ZaJ h70;refine Zaq (Zaf (Zar (Zaf (Zab (Zaa.go (Zac rfl rfl) ?_)))));refine Zaa.go (Zai rfl ZbX rfl rfl rfl) (Zaa.go (Zaj rfl rfl rfl on28 rfl) (Zaa.go (Zac rfl rfl) (Zaa.go (Zav (j) rfl rfl (rfl) (getm hj1) Tryz.underlying28 rfl sz3 rfl) (Zaa.go (ZaF rfl rfl on3 rfl) (Zaa.go (Zan (has30_p l X.af[j] (by omega)) rfl rfl) (Zaa.go (Zbp rfl rfl) (Zae (ZaE rfl (fun h80 => ?_) (fun h80 => ?_)))))))))
      · refine Zaf (Zab (Zaa.go (Zac rfl rfl) (Zaa.go (Zai rfl ZbX rfl rfl rfl) ?_)));refine Zaa.go (Zaj rfl rfl rfl on28 rfl) (Zaa.go (Zac rfl rfl) (Zaa.go (Zav (j) rfl rfl (rfl) (getm hj1) Tryz.underlying28 rfl sz3 rfl) (Zaa.go (ZaF rfl rfl on3 rfl) (Zaa.go (Za0 zl58 pl58 rfl rfl rfl) (Zal.go (ZaA rfl rfl rfl rfl rfl rfl rfl sz58) (Zaa.go (Zad rfl rfl) (Zae (Zas ?_))))))));exact ⟨_, [], [], Zao rfl, rfl, rfl, by rw [hrn, find_at hj1 (fun x hx => by simpa using hja x hx) (by simpa using h80)]; rfl, rfl⟩
      · refine Zaq (Zab (Zaa.go (Zac rfl rfl) (Zaa.go (Zay rfl rfl (wrapS (j + 1) (by omega)) rfl) (Zaa.go (Zad rfl rfl) (Zae ?_)))));exact ⟨j + 1, ⟨by show j + 1 ≤ _; omega, by rw [List.take_succ_eq_append_getElem hj1]; intro e he; rcases List.mem_append.1 he with he | he; exact hja e he; rw [List.mem_singleton.1 he]; simpa using h80⟩, by show X.af.length - (j + 1) < X.af.length - j; omega, Zat hF [2, 3] rfl (rfl) ⟨rfl, rfl, rfl, rfl, rfl, trivial⟩⟩
    · refine ZaI (Zaf (Zab (Zaa.go (Za0 zl58 pl58 rfl rfl rfl) (Zal.go (ZaA rfl rfl rfl rfl rfl rfl rfl sz58) (Zaa.go (Zad rfl rfl) (Zae (Zas ?_)))))));exact ⟨_, [], [], Zao rfl, rfl, rfl, by rw [hrn, Zco (fun x hx => by have e : j = X.af.length := (by have h := h70; omega); rw [e, List.take_length] at hja; simpa using hja x hx)]; rfl, rfl⟩
theorem blocked_p (p : Prb) (hf : FewP p) (hE : prbE p = 0) (l : List Int) (id : Int) (hl : l.length ≤ 1000) (hid : id ∈ p.it.map Itm.id) : PCalls Tryz.prog 42 [.d (prbD p), .d (.sl none (l.map intD)), .d (intD id)] (excRD (blockR p l id)) := blocked_n p hf (roos_nodup hE) l id hl hid
end Go.Proofs.YtneihdahboilnaaGreat
/- Layer 30: the reference: the next exclusion. -/
namespace Go.Proofs.YtneihdahboilnaaGreat
open Go.RowKit

def overX (its its0 : List Itm) (l : List Int) (x : Roo) : Option Exc := if overL its0 x l < 0 then ((qIds its x.r).reverse.find? fun a => decide (a ∈ l)).map fun a => ⟨a, 0, x.r, -1⟩ else none
def nextR (p : Prb) (l : List Int) : Option Exc := match l.findSome? (blockR p l) with
  | some e => some e
  | none => (rosS p).findSome? (overX (sortO p.it) p.it l)
theorem rev_find {α : Type} {p : α → Bool} {Q : List α} {m : Nat} (hm : m < Q.length) (h0 : ∀ a ∈ Q.drop (m + 1), p a = false) (h1 : p Q[m] = true) : Q.reverse.find? p = some Q[m] := by
  have e : Q.reverse = (Q.drop (m + 1)).reverse ++ (Q[m] :: (Q.take m).reverse) := by
    conv => lhs; rw [← List.take_append_drop m Q, List.drop_eq_getElem_cons hm]
    rw [List.reverse_append, List.reverse_cons, List.append_assoc]; rfl
  rw [e, List.find?_append, Zco (fun a ha => h0 a (List.mem_reverse.1 ha)), List.find?_cons, h1]; rfl
set_option maxRecDepth 100000 in
set_option maxHeartbeats 1000000 in
theorem next30_p (p : Prb) (hf : FewP p) (hE : prbE p = 0) (l : List Int) (hl : l.length ≤ 1000) (hids : ∀ id ∈ l, id ∈ p.it.map Itm.id) : PCalls Tryz.prog 46 [.d (prbD p), .d (.sl none (l.map intD))] (excRD (nextR p l)) := by
  have hrm := rooms30_p p hE (by have := hf.r; omega);have hbr : ∀ e, l.findSome? (blockR p l) = some e → nextR p l = some e := fun e h => by unfold nextR; rw [h]
  have hbn : l.findSome? (blockR p l) = none → nextR p l = (rosS p).findSome? (overX (sortO p.it) p.it l) := fun h => by unfold nextR; rw [h]
  have hrl : (rosS p).length ≤ 100 := by rw [(ZbY p).length_eq]; exact hf.r
  have hrn : ∀ x ∈ rosS p, -4000000000000000 ≤ x.n ∧ x.n ≤ 4000000000000000 := (sml_P hf hE).n;have hil := hf.i;have hqf := fun (r : Rsc) => refqueue_p p r (by omega) (fun i hi => by have h := hf.x i ((Za9 p.it).mem_iff.1 hi); omega);have hql : ∀ r, (qIds (sortO p.it) r).length ≤ 30 := fun r => by unfold qIds; rw [List.length_map]; have := List.length_filter_le (fun i => decide (dltE i r < 0)) (sortO p.it); rw [ZbE] at this; omega
  obtain ⟨ros, hros⟩ : ∃ ros, rosS p = ros := ⟨_, rfl⟩
  obtain ⟨S, hS⟩ : ∃ S, sortO p.it = S := ⟨_, rfl⟩
  rw [hros] at hrm hbn hrl hrn;rw [hS] at hbn hqf hql;refine Zaz Tryz.func46 rfl rfl Tryz.ntmps46 rfl rfl rfl fun F hF => (Zaf (Zab (Zal.go (ZaO 1 rfl rfl rfl rfl rfl rfl rfl) (Zal.go (ZaR 2 zl58 rfl rfl rfl rfl) ?_))));refine Zaa.go (Zad rfl rfl) (Zae (Zaf (Zaf (Zab (Zaa.go (Zad rfl rfl) (Zae (Zar (ZaH (α := Nat) (fun k => ⟨78, [(1, .d (.sl none (l.map intD))), (2, (.ptr 1 0 0)), (4, (.ptr 2 0 0)), (6, (.d (intD (k : Int))))], [(1, [prbB2 25 p]), (2, [excX exc0])]⟩) (fun k => k ≤ l.length ∧ ∀ x ∈ l.take k, blockR p l x = none) (fun k => l.length - k) (0) (⟨Nat.zero_le _, by simp⟩) (Zat hF [1, 2] rfl rfl ⟨rfl, rfl, rfl, rfl, trivial⟩) ?_))))))));rintro k ⟨hk0, hkb⟩;refine Zaf (Zaf (Zab (Zaa.go (Zac rfl rfl) (Zaa.go (Zac rfl rfl) (Zaa.go (Zax rfl Tryz.underlying28 rfl) (Zaa.go (ZaG rfl rfl rfl) (Zae (ZaE rfl (fun h16 => ?_) (fun h16 => ?_)))))))))
  · have hk1 : k < l.length := ZaJ h16;refine Zaq (Zaf (Zar (Zaf ?_)));have hbl := blocked_p p hf hE l l[k] hl (hids _ (List.getElem_mem hk1));refine ZaV [[], [], [], [], [2, 3], [2, 3, 4], [0, 1, 2, 3, 4, 5], [0, 1, 2, 3, 4, 5, 6], [0, 1, 2, 3, 4, 5, 6, 7], [0, 1, 2, 3, 4, 5, 6, 7], [], [0, 1, 2, 3, 4, 5, 6, 7, 8, 10], [0, 1, 2, 3, 4, 5, 6, 7, 8, 9, 10, 11]] mixed rfl (dws (Zah [2] [1] rfl rfl (fun _ => Zag (Zap rfl rfl rw25 rfl rfl rfl)) (Zah [1] [] rfl rfl (fun _ => Zag (Zac rfl rfl)) (Zah [1] [] rfl rfl (fun _ => Zag (Zac rfl rfl)) (Zah [6] [] rfl rfl (fun _ => Zag (Zac rfl rfl)) (Zah [22, 23] [] rfl rfl (fun _ => Zag (Zav (k) rfl rfl (rfl) (getm hk1) Tryz.underlying28 rfl sz3 rfl)) (Zah [24] [] rfl rfl (fun _ => Zag (ZaF rfl rfl on3 rfl)) (Zah [20, 21, 25] [] rfl rfl (fun _ => Zag (Zan (hbl) rfl rfl)) ?_))))))));refine Zah [26] [] rfl rfl (fun _ => Zag (Zac rfl rfl)) (Zah [19] [] rfl rfl (fun _ => Zag (Zau rfl rfl rfl)) (Zah [19] [] rfl rfl (fun _ => Zag (Zau rfl rfl rfl)) (Zbi [] [3] [(7, _)] rfl rfl (fun _ => Za7 (ZaR 3 zl58 rfl rfl rfl rfl)) (.inr ⟨7, _, rfl, rfl, rfl, rfl, rfl⟩) rfl rfl rfl rfl rfl (Zbi [7, 27] [3] [] rfl rfl (fun _ => Za7 (ZaA rfl rfl rfl rfl rfl rfl rfl sz58)) (.inl ⟨rfl, rfl⟩) rfl rfl rfl rfl rfl (dwc 12 rfl rfl rfl (dw1 13 rfl rfl (Zaa.go (Zad rfl rfl) (Zae ⟨rfl, ?_⟩))))))));refine dwe (Zaf (Zab ?_))
    cases hbk : blockR p l l[k]
    · refine Zaa.go (Zac rfl rfl) (Zae (ZaU rfl (rfl) (Zaq (Zab (Zaa.go (Zac rfl rfl) (Zaa.go (Zay rfl rfl (wrapS (k + 1) (by omega)) rfl) (Zaa.go (Zad rfl rfl) (Zae ?_))))))));exact ⟨k + 1, ⟨by show k + 1 ≤ _; omega, by rw [List.take_succ_eq_append_getElem hk1]; intro e he; rcases List.mem_append.1 he with he | he; exact hkb e he; rw [List.mem_singleton.1 he]; exact hbk⟩, by show l.length - (k + 1) < l.length - k; omega, Zat hF [1, 2] rfl (rfl) ⟨rfl, rfl, rfl, rfl, trivial⟩⟩
    · refine Zaa.go (Zac rfl rfl) ?_;refine Zae (ZaQ rfl (rfl) (Zaf (Zab (Zaa.go (Zap rfl rfl rw58 rfl rfl rfl) (Zal.go (ZaA rfl rfl rfl rfl rfl rfl rfl sz58) (Zaa.go (Zad rfl rfl) (Zae (Zas ?_))))))));exact ⟨_, [], [], Zao rfl, rfl, rfl, by rw [hbr _ (findSome_at hk1 hkb hbk)]; rfl, rfl⟩
  · refine ZaI (Zaf ?_);have hnn := hbn (findSome_no (by have e : k = l.length := (by have h := h16; omega); rw [e, List.take_length] at hkb; exact hkb));refine Zab (Zaa.go (Zap rfl rfl rw25 rfl rfl rfl) (Zaa.go (Zan (hrm) rfl rfl) ?_));refine Zaa.go (Zad rfl rfl) (Zae (Zaf (Zaf (Zab (Zaa.go (Zad rfl rfl) (Zae (Zar (ZaH (α := Nat) (fun j => ⟨78, [(1, .d (.sl none (l.map intD))), (2, (.ptr 1 0 0)), (4, (.ptr 2 0 0)), (9, (.d (.sl none (ros.map rooD)))), (10, (.d (intD (j : Int))))], [(1, [prbB2 25 p]), (2, [excX exc0])]⟩) (fun j => j ≤ ros.length ∧ ∀ x ∈ ros.take j, overX S p.it l x = none) (fun j => ros.length - j) (0) (⟨Nat.zero_le _, by simp⟩) (Zat hF [1, 2] rfl rfl ⟨rfl, rfl, rfl, rfl, rfl, trivial⟩) ?_))))))));rintro j ⟨hj0, hjb⟩;refine Zaf (Zaf (Zab (Zaa.go (Zac rfl rfl) (Zaa.go (Zac rfl rfl) (Zaa.go (Zax rfl Tryz.underlying22 rfl) (Zaa.go (ZaG rfl rfl rfl) (Zae (ZaE rfl (fun h36 => ?_) (fun h36 => ?_)))))))))
    · have hj1 : j < ros.length := ZaJ h36;refine Zaq (Zaf (Zar (Zaf (Zaf ?_))));have hxn := hrn _ (List.getElem_mem hj1);have hovp := over_p p ros[j] l hil hxn hl (fun i hi => hf.x i hi);refine ZaV [[], [], [], [1, 2], [1, 2, 3], [], [0, 1, 2, 3, 4, 5], [0, 1, 2, 3, 4, 5, 6]] mixed rfl (dws (Zah [2] [1] rfl rfl (fun _ => Zag (Zap rfl rfl rw25 rfl rfl rfl)) ?_));refine Zah [9] [] rfl rfl (fun _ => Zag (Zac rfl rfl)) (Zah [10] [] rfl rfl (fun _ => Zag (Zac rfl rfl)) (Zah [40, 41] [] rfl rfl (fun _ => Zag (Zav (j) rfl rfl (rfl) (getm hj1) Tryz.underlying22 rfl sz67 rfl)) (Zah [42] [] rfl rfl (fun _ => Zag (ZaP rfl rfl rw67 rfl)) (Zah [1] [] rfl rfl (fun _ => Zag (Zac rfl rfl)) (dwc 6 rfl rfl rfl (dw1 7 rfl rfl (Zaa.go (Zan (hovp) rfl rfl) (Zae ⟨rfl, ?_⟩))))))));refine dw1 8 rfl rfl (Zaa.go (Za1 rfl rfl rfl) (Zae ⟨rfl, ?_⟩));refine dwe (ZaE rfl (fun h46 => ?_) (fun h46 => ?_))
      · refine ZaI (Zab (Zaa.go (Zac rfl rfl) (Zaa.go (Zay rfl rfl (wrapS (j + 1) (by omega)) rfl) (Zaa.go (Zad rfl rfl) (Zae ?_)))));exact ⟨j + 1, ⟨by show j + 1 ≤ _; omega, by rw [List.take_succ_eq_append_getElem hj1]; intro e he; rcases List.mem_append.1 he with he | he; exact hjb e he; rw [List.mem_singleton.1 he]; unfold overX; rw [if_neg (by have h := h46; rw [Int.max_def] at h; split at h <;> omega)]⟩, by show ros.length - (j + 1) < ros.length - j; omega, Zat hF [1, 2] rfl (rfl) ⟨rfl, rfl, rfl, rfl, rfl, trivial⟩⟩
      · refine Zaq (Zaf ?_);have hov : overL p.it ros[j] l < 0 := by have h := h46; rw [Int.max_def] at h; split at h <;> omega
        obtain ⟨Q, hQ⟩ : ∃ Q, qIds S ros[j].r = Q := ⟨_, rfl⟩
        have hqk := hqf ros[j].r;have hqlk := hql ros[j].r;rw [hQ] at hqk hqlk;refine ZaV [[], [], [], [1, 2], [1, 2, 3], [1, 2, 3, 4], [0, 1, 2, 3, 4, 5], [0, 1, 2, 3, 4, 5, 6]] mixed rfl (dws (Zah [2] [1] rfl rfl (fun _ => Zag (Zap rfl rfl rw25 rfl rfl rfl)) ?_));refine Zah [9] [] rfl rfl (fun _ => Zag (Zac rfl rfl)) (Zah [10] [] rfl rfl (fun _ => Zag (Zac rfl rfl)) (Zah [48, 49] [] rfl rfl (fun _ => Zag (Zav (j) rfl rfl (rfl) (getm hj1) Tryz.underlying22 rfl sz67 rfl)) (Zah [50] [] rfl rfl (fun _ => Zag (Zbb rfl fi67_0 rfl rfl rfl)) (Zah [51] [] rfl rfl (fun _ => Zag (ZaP rfl rfl rw56 rfl)) (dwc 6 rfl rfl rfl (dw1 7 rfl rfl (Zaa.go (Zan (hqk) rfl rfl) (Zae ⟨rfl, ?_⟩))))))));refine dw1 8 rfl rfl (Zaa.go (Zad rfl rfl) (Zae ⟨rfl, ?_⟩));refine dwe ?_;refine Zaf (Zab (Zaa.go (Zac rfl rfl) (Zaa.go (Zax rfl Tryz.underlying28 rfl) (Zaa.go (st_sub rfl rfl (IntWalk.i64_in _ (by omega)) rfl) (Zaa.go (Zad rfl rfl) (Zae (Zar (ZaH (α := Nat) (fun c => ⟨78, [(1, .d (.sl none (l.map intD))), (2, (.ptr 1 0 0)), (4, (.ptr 2 0 0)), (9, (.d (.sl none (ros.map rooD)))), (10, (.d (intD (j : Int)))), (11, (.d (.sl none (Q.map intD)))), (12, (.d (intD ((c : Int) - 1))))], [(1, [prbB2 25 p]), (2, [excX exc0])]⟩) (fun c => c ≤ Q.length ∧ ∀ a ∈ Q.drop c, a ∉ l) (fun c => c) (Q.length) (⟨Nat.le_refl _, by simp⟩) (Zat hF [1, 2] rfl rfl ⟨rfl, rfl, rfl, rfl, rfl, rfl, rfl, trivial⟩) ?_))))))));rintro c ⟨hc0, hca⟩;refine Zaf (Zaf (Zab (Zaa.go (Zac rfl rfl) (Zaa.go (st_geq rfl rfl rfl) (Zae (ZaE rfl (fun h58 => ?_) (fun h58 => ?_)))))))
        · obtain ⟨m, rfl⟩ : ∃ m, c = m + 1 := ⟨c - 1, by have h := h58; omega⟩
          refine Zaq (Zaf (Zar (Zaf ?_)));have hm1 : m < Q.length := by omega
          have hmc : ((m + 1 : Nat) : Int) - 1 = (m : Int) := by omega
          rw [hmc];refine Zab (Zaa.go (Zac rfl rfl) (Zaa.go (Zac rfl rfl) (Zaa.go (Zac rfl rfl) (Zaa.go (Zav (m) rfl rfl (rfl) (getm hm1) Tryz.underlying28 rfl sz3 rfl) (Zaa.go (ZaF rfl rfl on3 rfl) (Zaa.go (Zan (has30_p l Q[m] (by omega)) rfl rfl) (Zae (ZaE rfl (fun h66 => ?_) (fun h66 => ?_)))))))))
          · refine Zaf (ZaV [[], [], [0, 1], [0, 1, 2], [], [], [4, 5], [4, 5, 6], [4, 5, 6, 7], [0, 1, 2, 3, 4, 5, 6, 7, 8], [0, 1, 2, 3, 4, 5, 6, 7, 8, 9], [0, 1, 2, 3, 4, 5, 6, 7, 8, 9, 10]] mixed rfl (dws (Zah [11] [] rfl rfl (fun _ => Zag (Zac rfl rfl)) (Zah [12] [] rfl rfl (fun _ => Zag (Zac rfl rfl)) (Zah [67, 68] [] rfl rfl (fun _ => Zag (Zav (m) rfl rfl (rfl) (getm hm1) Tryz.underlying28 rfl sz3 rfl)) (Zah [69] [] rfl rfl (fun _ => Zag (ZaF rfl rfl on3 rfl)) ?_))))));refine Zah [9] [] rfl rfl (fun _ => Zag (Zac rfl rfl)) (Zah [10] [] rfl rfl (fun _ => Zag (Zac rfl rfl)) (Zah [71, 72] [] rfl rfl (fun _ => Zag (Zav (j) rfl rfl (rfl) (getm hj1) Tryz.underlying22 rfl sz67 rfl)) (Zah [73] [] rfl rfl (fun _ => Zag (Zbb rfl fi67_0 rfl rfl rfl)) (Zah [74] [] rfl rfl (fun _ => Zag (ZaP rfl rfl rw56 rfl)) (dwc 9 rfl rfl rfl (dw1 10 rfl rfl (Zaa.go (Za0 zl58 pl58 rfl rfl rfl) (Zae ⟨rfl, ?_⟩))))))));refine dw1 11 rfl rfl (Zal.go (ZaA rfl rfl rfl rfl rfl rfl rfl sz58) (Zae ⟨rfl, ?_⟩));refine dw1 12 rfl rfl (Zaa.go (Zad rfl rfl) (Zae ⟨rfl, ?_⟩));refine dwe (Zas ?_);exact ⟨_, [], [], Zao rfl, rfl, rfl, by rw [hnn, findSome_at hj1 hjb (by unfold overX; rw [if_pos hov, hQ, rev_find hm1 (fun a ha => by simpa using hca a ha) (by simpa using h66)]; rfl)]; rfl, rfl⟩
          · refine Zaq (Zab (Zaa.go (Zac rfl rfl) (Zaa.go (st_sub rfl rfl (IntWalk.i64_in _ (by omega)) rfl) (Zaa.go (Zad rfl rfl) (Zae ?_)))));exact ⟨m, ⟨by omega, by rw [List.drop_eq_getElem_cons hm1]; intro a ha; rcases List.mem_cons.1 ha with ha | ha; rw [ha]; simpa using h66; exact hca a ha⟩, by show m < m + 1; omega, Zat hF [1, 2] rfl (rfl) ⟨rfl, rfl, rfl, rfl, rfl, rfl, rfl, trivial⟩⟩
        · refine ZaI (Zab (Zaa.go (Zac rfl rfl) (Zaa.go (Zay rfl rfl (wrapS (j + 1) (by omega)) rfl) (Zaa.go (Zad rfl rfl) (Zae ?_)))));exact ⟨j + 1, ⟨by show j + 1 ≤ _; omega, by rw [List.take_succ_eq_append_getElem hj1]; intro e he; rcases List.mem_append.1 he with he | he; exact hjb e he; rw [List.mem_singleton.1 he]; unfold overX; rw [if_pos hov, hQ, Zco (fun a ha => by have h0 : c = 0 := (by have h := h58; omega); subst h0; rw [List.drop_zero] at hca; simpa using hca a (List.mem_reverse.1 ha))]; rfl⟩, by show ros.length - (j + 1) < ros.length - j; omega, Zat hF [1, 2] rfl (rfl) ⟨rfl, rfl, rfl, rfl, rfl, trivial⟩⟩
    · refine ZaI (Zaf (Zab (Zaa.go (Za0 zl58 pl58 rfl rfl rfl) (Zal.go (ZaA rfl rfl rfl rfl rfl rfl rfl sz58) (Zaa.go (Zad rfl rfl) (Zae (Zas ?_)))))));exact ⟨_, [], [], Zao rfl, rfl, rfl, by rw [hnn, findSome_no (by have e : j = ros.length := (by have h := h36; omega); rw [e, List.take_length] at hjb; exact hjb)]; rfl, rfl⟩
end Go.Proofs.YtneihdahboilnaaGreat
/- Layer 30: the reference's removal procedure. -/
namespace Go.Proofs.YtneihdahboilnaaGreat
open Go.RowKit

def runR (p : Prb) : Nat → List Int → List Exc × List Int
  | 0, l => ([], l)
  | f + 1, l => match nextR p l with
    | none => ([], l)
    | some e => (e :: (runR p f (without l e.id)).1, (runR p f (without l e.id)).2)
def explR (p : Prb) : List Exc × List Int := runR p (sortO p.it).length ((sortO p.it).map Itm.id)
theorem runR_none {p : Prb} {f : Nat} {l : List Int} (h : nextR p l = none) : runR p f l = ([], l) := by
  cases f with
  | zero => rfl
  | succ f => unfold runR; rw [h]
theorem runR_some {p : Prb} {f : Nat} {l : List Int} {e : Exc} (h : nextR p l = some e) : runR p (f + 1) l = (e :: (runR p f (without l e.id)).1, (runR p f (without l e.id)).2) := by
  show (match nextR p l with | none => _ | some e => _) = _;rw [h]
theorem blockR_id {p : Prb} {l : List Int} {id : Int} {e : Exc} (h : blockR p l id = some e) : e.id = id := by
  unfold blockR at h
  split at h
  · rename_i e' h1
    injection h with h; subst h
    obtain ⟨x, _, h2⟩ := List.exists_of_findSome?_eq_some h1;unfold blkR at h2
    split at h2
    · obtain ⟨a, _, rfl⟩ := Option.map_eq_some_iff.1 h2; rfl
    · cases h2
  · obtain ⟨a, _, rfl⟩ := Option.map_eq_some_iff.1 h; rfl
theorem nextR_mem {p : Prb} {l : List Int} {e : Exc} (h : nextR p l = some e) : e.id ∈ l := by
  unfold nextR at h
  split at h
  · rename_i e' h1
    injection h with h; subst h
    obtain ⟨x, hx, h2⟩ := List.exists_of_findSome?_eq_some h1;rw [blockR_id h2]; exact hx
  · obtain ⟨x, _, h2⟩ := List.exists_of_findSome?_eq_some h;unfold overX at h2
    split at h2
    · obtain ⟨a, ha, rfl⟩ := Option.map_eq_some_iff.1 h2;have := List.find?_some ha
      simpa using this
    · cases h2
theorem without_len {l : List Int} {x : Int} (h : x ∈ l) : (without l x).length + 1 ≤ l.length := by
  unfold without
  have : (l.filter fun y => decide (y ≠ x)).length < l.length := by
    rw [List.length_filter_lt_length_iff_exists];exact ⟨x, h, by simp⟩
  omega
theorem without_mem {l : List Int} {x y : Int} (h : y ∈ without l x) : y ∈ l := (List.mem_filter.1 h).1
set_option maxRecDepth 100000 in
set_option maxHeartbeats 1000000 in
theorem explain30_p (p : Prb) (hf : FewP p) (hE : prbE p = 0) : PCalls Tryz.prog 22 [.d (prbD p)] (.tup [.sl none ((explR p).2.map intD), .sl none ((explR p).1.map excD)]) := by
  have hil := hf.i;have hor := order30_p p (by omega);have hnl := fun (l : List Int) (h1 : l.length ≤ 1000) (h2 : ∀ id ∈ l, id ∈ p.it.map Itm.id) => next30_p p hf hE l h1 h2;have hsl := ZbE p.it;have hsm : ∀ id ∈ (sortO p.it).map Itm.id, id ∈ p.it.map Itm.id := fun id h => ((Za9 p.it).map Itm.id).mem_iff.1 h;unfold explR
  obtain ⟨S, hS⟩ : ∃ S, sortO p.it = S := ⟨_, rfl⟩
  rw [hS] at hor hsl hsm ⊢;have hn0 := hnl (S.map Itm.id) (by rw [List.length_map]; omega) hsm;refine Zaz Tryz.func22 rfl rfl Tryz.ntmps22 rfl rfl rfl fun F hF => (Zaf (Zab (Zal.go (ZaO 1 rfl rfl rfl rfl rfl rfl rfl) (Zaa.go (Zad rfl rfl) (Zaa.go (Zad rfl rfl) ?_)))));refine Zae (Zaf (Zab (Zaa.go (Zap rfl rfl rw25 rfl rfl rfl) (Zaa.go (Zan (hor) rfl rfl) (Zaa.go (Zad rfl rfl) (Zae (Zaf (Zab ?_))))))));refine Zaa.go (Zad rfl rfl) (Zae (Zaf (Zaf (Zab (Zaa.go (Zap rfl rfl rw25 rfl rfl rfl) (Zaa.go (Zac rfl rfl) (Zaa.go (Zan (hn0) rfl rfl) (Zaa.go (Zac rfl rfl) ?_))))))));refine Zaa.go (Zau rfl rfl rfl) (Zaa.go (Zau rfl rfl rfl) (Zal.go (ZaR 2 zl58 rfl rfl rfl rfl) (Zal.go (ZaA rfl rfl rfl rfl rfl rfl rfl sz58) (Zaa.go (Zad rfl rfl) (Zae (Zar (ZbD 5 900 sl45 rfl rfl rfl rfl (ZaH (α := List Int × List Exc × Nat × Option Exc) (fun q => ⟨34, [(1, (.ptr 1 0 0)), (4, (.d (.sl none (q.1.map intD)))), (5, (.own 900 0 q.2.1.length)), (6, (.ptr 2 0 0)), (7, (.d (boolD q.2.2.2.isSome)))], [(1, [prbB2 25 p]), (2, [excX (q.2.2.2.getD exc0)]), (900, [.rowD 58 9 (q.2.1.map excD)])]⟩) (fun q => nextR p q.1 = q.2.2.2 ∧ q.1.length ≤ q.2.2.1 ∧ q.2.1.length + q.2.2.1 ≤ 30 ∧ (∀ id ∈ q.1, id ∈ p.it.map Itm.id) ∧ q.2.1 ++ (runR p q.2.2.1 q.1).1 = (runR p S.length (S.map Itm.id)).1 ∧ (runR p q.2.2.1 q.1).2 = (runR p S.length (S.map Itm.id)).2) (fun q => q.2.2.1) ((S.map Itm.id, [], S.length, nextR p (S.map Itm.id))) (⟨rfl, by show (S.map Itm.id).length ≤ S.length; rw [List.length_map]; exact Nat.le_refl _, by show 0 + S.length ≤ 30; omega, hsm, rfl, rfl⟩) (Zat hF [1, 2, 900] rfl rfl ⟨rfl, rfl, rfl, rfl, rfl, trivial⟩) ?_))))))));rintro ⟨l, acc, f, o⟩ ⟨ho, hlf, hal, hid, hr1, hr2⟩;dsimp only at ho hlf hal hid hr1 hr2 ⊢;refine Zaf (Zaf (Zab (Zaa.go (Zac rfl rfl) (Zae (Zby rfl (fun h16 => ?_) (fun h16 => ?_))))))
  · obtain ⟨e, rfl⟩ : ∃ e, o = some e := Option.isSome_iff_exists.1 (by simpa using h16);refine Zaq (Zaf (Zar ?_));have hwl := without_len (nextR_mem ho)
    obtain ⟨f2, rfl⟩ : ∃ f2, f = f2 + 1 := ⟨f - 1, by omega⟩
    have hrs := runR_some (f := f2) ho;have hnn := hnl (without l e.id) (by omega) (fun id h => hid id (without_mem h));refine ZaV [[], [], [1], [0, 1, 2], [], [], [5], [0, 1, 2, 3, 4, 5, 6], [0, 1, 2, 3, 4, 5, 6, 7], [0, 1, 2, 3, 4, 5, 6, 7, 8]] mixed rfl (dws (Zah [4] [] rfl rfl (fun _ => Zag (Zac rfl rfl)) (Zah [6] [] rfl rfl (fun _ => Zag (Zai rfl fi58_0 rfl rfl rfl)) ?_)));refine Zah [24] [2] rfl rfl (fun _ => Zag (Zaj rfl rfl rfl on3 rfl)) (Zah [23, 25] [] rfl rfl (fun _ => Zag (Zan (without_p l e.id (by omega)) rfl rfl)) (Zah [5] [] rfl rfl (fun _ => Zag (Zac rfl rfl)) (Zah [6] [2] rfl rfl (fun _ => Zag (Zap rfl rfl rw58 rfl rfl rfl)) (Zbi [28] [5] [(29, _)] rfl rfl (fun _ => Za7 (ZaC 5 sl45 rfl rfl rfl rfl rfl rfl rfl rfl)) (.inr ⟨29, _, rfl, rfl, rfl, rfl, rfl⟩) rfl rfl rfl rfl rfl (dwc 7 rfl rfl rfl (dw1 8 rfl rfl (Zal.go (Za6 (acc) ([e]) rfl rfl rfl rfl rfl rfl rfl rfl sl45 (by simp only [List.length_singleton]; omega) rfl rfl rfl rfl) (Zae ⟨rfl, ?_⟩))))))));refine dw1 9 rfl rfl (Zaa.go (Zad rfl rfl) (Zae ⟨rfl, ?_⟩));refine dw1 10 rfl rfl (Zaa.go (Zad rfl rfl) (Zae ⟨rfl, ?_⟩));refine dwe (Zaf (Zaf (Zab (Zaa.go (Zap rfl rfl rw58 rfl rfl rfl) (Zae ?_)))));refine a_only [1, 900] hF rfl rfl ?_;refine Zab (Zal.go (ZaR 2 zl58 rfl rfl rfl rfl) (Zal.go (ZaA rfl rfl rfl rfl rfl rfl rfl sz58) (Zae (Zab ?_))));refine Zaa.go (Zap rfl rfl rw25 rfl rfl rfl) (Zaa.go (Zac rfl rfl) (Zaa.go (Zan (hnn) rfl rfl) (Zaa.go (Zac rfl rfl) (Zaa.go (Zau rfl rfl rfl) (Zaa.go (Zau rfl rfl rfl) (Zal.go (ZaA rfl rfl rfl rfl rfl rfl rfl sz58) (Zaa.go (Zad rfl rfl) (Zae ?_))))))));exact ⟨(without l e.id, acc ++ [e], f2, nextR p (without l e.id)), ⟨rfl, by show (without l e.id).length ≤ f2; omega, by show (acc ++ [e]).length + f2 ≤ 30; rw [List.length_append]; simp; omega, fun id h => hid id (without_mem h), by show (acc ++ [e]) ++ (runR p f2 (without l e.id)).1 = _; rw [List.append_assoc, ← hr1, hrs]; rfl, by show (runR p f2 (without l e.id)).2 = _; rw [← hr2, hrs]⟩, by show f2 < f2 + 1; omega, Zat hF [1, 2, 900] rfl (rfl) ⟨rfl, rfl, rfl, rfl, rfl, trivial⟩⟩
  · refine ZaI (Zaf ?_);have hon : nextR p l = none := by rw [ho]; simpa using h16
    rw [runR_none hon, List.append_nil] at hr1;rw [runR_none hon] at hr2;refine Zbl (emb := excD) 5 900 acc rfl rfl rfl rfl rfl rfl rfl (Zab (Zaa.go (Zac rfl rfl) (Zaa.go (Zac rfl rfl) (Zaa.go (Zad rfl rfl) (Zaa.go (Zad rfl rfl) (Zae (Zas ?_)))))));exact ⟨_, [], [], Zao rfl, rfl, rfl, by rw [← hr1, ← hr2], rfl⟩
end Go.Proofs.YtneihdahboilnaaGreat
/- Layer 30: the removal procedure and the reference say the same. Plain laws. -/
namespace Go.Proofs.YtneihdahboilnaaGreat
open Go.RowKit

theorem find_congr {α : Type} {p q : α → Bool} : ∀ {l : List α}, (∀ x ∈ l, p x = q x) → l.find? p = l.find? q
  | [], _ => rfl
  | a :: l, h => by
    rw [List.find?_cons, List.find?_cons, h a (List.mem_cons_self ..), find_congr fun x hx => h x (List.mem_cons_of_mem _ hx)]
theorem fs_congr {α β : Type} {f g : α → Option β} : ∀ {l : List α}, (∀ x ∈ l, f x = g x) → l.findSome? f = l.findSome? g
  | [], _ => rfl
  | a :: l, h => by
    rw [List.findSome?_cons, List.findSome?_cons, h a (List.mem_cons_self ..), fs_congr fun x hx => h x (List.mem_cons_of_mem _ hx)]
theorem fs_filter {α β : Type} {f : α → Option β} {p : α → Bool} : ∀ {l : List α}, (∀ x ∈ l, p x = false → f x = none) → (l.filter p).findSome? f = l.findSome? f
  | [], _ => rfl
  | a :: l, h => by
    have ih := fs_filter (f := f) (p := p) (l := l) fun x hx => h x (List.mem_cons_of_mem _ hx);rw [List.filter_cons]
    cases hp : p a with
    | true => rw [if_pos rfl, List.findSome?_cons, List.findSome?_cons, ih]
    | false => rw [if_neg (by simp), ih, List.findSome?_cons, h a (List.mem_cons_self ..) hp]
theorem find_map_fs {α β γ : Type} {g : α → β} {p : β → Bool} {h : β → γ} : ∀ {l : List α}, ((l.map g).find? p).map h = l.findSome? fun x => if p (g x) = true then some (h (g x)) else none
  | [] => rfl
  | a :: l => by
    rw [List.map_cons, List.find?_cons, List.findSome?_cons]
    cases hp : p (g a) with
    | true => rw [if_pos rfl]; rfl
    | false => rw [if_neg (by simp), ← find_map_fs (l := l)]
theorem amt_dlt {x : Itm} (h : checkE x = 0) {r : Rsc} (hr : validE r = 0) : amt (dltS x) r = dltE x r := by
  have h1 : dltS x = dltC (ctr x) := if_pos h;have h2 : dltE x r = ctrSum (ctr x) r := if_pos ⟨h, hr⟩;rw [h1, h2]
  by_cases h0 : ctrSum (ctr x) r = 0
  · rw [h0];refine mget_not fun hm => ?_;obtain ⟨d, hd, e⟩ := List.mem_map.1 hm;obtain ⟨h3, h4⟩ := (dltC_mem _ _).1 hd;have h5 := (sumL_mem (ctr x) d.1 d.2).1 h3;rw [e, h0] at h5;exact h4 h5.2
  · refine ZbU (by rw [← h1]; exact Zb8 x) ((dltC_mem _ _).2 ⟨(sumL_mem _ _ _).2 ⟨?_, rfl⟩, h0⟩)
    by_cases hm : r ∈ (ctr x).map Prod.fst
    · exact hm
    · exact absurd (ctrSum_none hm) h0
theorem rooms_valid30 {l : List Roo} (h : roomsE l = 0) : ∀ x ∈ l, validE x.r = 0 := fun x hx => by
  have h0 := Zbo.1 h;obtain ⟨j, hj, rfl⟩ := List.getElem_of_mem hx;have := h0 j (List.mem_range.2 hj);unfold rErr at this;rw [ZaK roo0 hj] at this
  split at this
  · contradiction
  · rename_i hv
    exact Classical.byContradiction fun h => hv h
theorem items_valid30 {l : List Itm} (h : itemsE l = 0) : ∀ x ∈ l, checkE x = 0 := fun x hx => by
  have h0 := Zbo.1 h;obtain ⟨j, hj, rfl⟩ := List.getElem_of_mem hx;have := h0 j (List.mem_range.2 hj);unfold iErr at this;rw [ZaK itm0 hj] at this
  split at this
  · contradiction
  · rename_i hv
    exact Classical.byContradiction fun h => hv h
theorem q_ids {its : List Itm} (hv : ∀ x ∈ its, checkE x = 0) {r : Rsc} (hr : validE r = 0) : qIds its r = (negQ (its.map dltS) r).map fun i => (its.getD i itm0).id := by
  unfold qIds negQ
  have e : its = (List.range its.length).map fun i => its.getD i itm0 := by
    apply List.ext_getElem (by simp)
    intro i h1 h2;simp only [List.getElem_map, List.getElem_range];rw [ZaK itm0 h1]
  conv => lhs; rw [e]
  rw [List.filter_map, List.map_map, List.length_map]
  congr 1
  refine List.filter_congr fun i hi => ?_;have hi' := List.mem_range.1 hi;show decide (dltE (its.getD i itm0) r < 0) = _;rw [ZaK [] (by simpa using hi'), List.getElem_map, ZaK itm0 hi', amt_dlt (hv _ (List.getElem_mem hi')) hr]
theorem on_mem {its : List Itm} (hn : (its.map Itm.id).Nodup) (on : Nat → Bool) {i : Nat} (hi : i < its.length) : (its.getD i itm0).id ∈ onIds its on its.length ↔ on i = true := by
  unfold onIds;rw [List.mem_map]
  constructor
  · rintro ⟨j, hj, e⟩;obtain ⟨h1, h2⟩ := List.mem_filter.1 hj;have hj' := List.mem_range.1 h1;rw [ZaK itm0 hi, ZaK itm0 hj'] at e
    have : j = i := by
      have h3 : (its.map Itm.id)[j]'(by simpa using hj') = (its.map Itm.id)[i]'(by simpa using hi) := by
        rw [List.getElem_map, List.getElem_map]; exact e
      exact (List.getElem_inj hn).1 h3
    rw [← this]; exact h2
  · intro h;exact ⟨i, List.mem_filter.2 ⟨List.mem_range.2 hi, h⟩, rfl⟩
end Go.Proofs.YtneihdahboilnaaGreat
/- Layer 30: the next exclusion of the network is the reference's. Plain laws. -/
namespace Go.Proofs.YtneihdahboilnaaGreat
open Go.RowKit

theorem psum {l m : List Int} (h : l.Perm m) : l.sum = m.sum := by
  induction h with
  | nil => rfl
  | cons x _ ih => rw [List.sum_cons, List.sum_cons, ih]
  | swap x y l => simp only [List.sum_cons]; omega
  | trans _ _ h1 h2 => rw [h1, h2]
theorem sum_flt {α : Type} {p : α → Bool} {f : α → Int} : ∀ {l : List α}, ((l.filter p).map f).sum = (l.map fun i => if p i = true then f i else 0).sum
  | [] => rfl
  | a :: l => by
    rw [List.filter_cons, List.map_cons, List.sum_cons, ← sum_flt (l := l)]
    cases hp : p a with
    | true => rw [if_pos rfl, if_pos rfl, List.map_cons, List.sum_cons]
    | false => rw [if_neg (by simp), if_neg (by simp), Int.zero_add]
theorem S_getN {ros : List Roo} {its : List Itm} {on : Nat → Bool} {i : Nat} (h : i < its.length) : (netS ros its on).nd.getD i nd0 = ndS (ros.map Roo.r) its on i := by
  show ((List.range its.length).map _).getD i nd0 = _;rw [ZaK nd0 (by simpa using h), List.getElem_map, List.getElem_range]
theorem negQ_lt {ds : List (List (Rsc × Int))} {r : Rsc} {i : Nat} (h : i ∈ negQ ds r) : i < ds.length := List.mem_range.1 (List.mem_filter.1 h).1
theorem its_range (its : List Itm) : its = (List.range its.length).map fun i => its.getD i itm0 := by
  apply List.ext_getElem (by simp)
  intro i h1 h2;simp only [List.getElem_map, List.getElem_range];rw [ZaK itm0 h1]
structure PV (p : Prb) (ros : List Roo) (its : List Itm) : Prop where
  e : prbE p = 0
  f : FewP p
  s : SmO ros its
  hr : rosS p = ros
  hi : sortO p.it = its
  v : ∀ x ∈ its, checkE x = 0
  w : ∀ x ∈ ros, validE x.r = 0
  up : ros.Pairwise fun a b => cmpR a.r b.r < 0
theorem pv_of {p : Prb} (hE : prbE p = 0) (hf : FewP p) : PV p (rosS p) (sortO p.it) := by
  have h1 : ordP p = sortO p.it := if_pos hE;have hs := sml_P hf hE;rw [h1] at hs;refine ⟨hE, hf, hs, rfl, rfl, fun x hx => items_valid30 (Zbn hE).2.1 x ((Za9 p.it).mem_iff.1 hx), fun x hx => rooms_valid30 (Zbn hE).1 x ((ZbY p).mem_iff.1 hx), ?_⟩;have hn := hs.r;rw [List.Nodup, List.pairwise_map] at hn;refine ((rosS_sorted p).and hn).imp fun {a b} ⟨g1, g2⟩ => ?_;have h1 := ZbH.anti a.r b.r;have h2 : cmpR a.r b.r ≠ 0 := fun e => g2 (cmpR_zero.1 e);omega
theorem over_sum {p : Prb} {ros : List Roo} {its : List Itm} (h : PV p ros its) (on : Nat → Bool) {x : Roo} (hx : x ∈ ros) : overL p.it x (onIds its on its.length) = max x.n 0 + sumS (its.map dltS) on x.r := by
  unfold overL
  congr 1
  have hp : p.it.Perm its := by rw [← h.hi]; exact (Za9 p.it).symm
  rw [psum ((hp.filter _).map _)]
  obtain ⟨l, hl⟩ : ∃ l, onIds its on its.length = l := ⟨_, rfl⟩
  rw [hl]
  have e : ((its.filter fun i => decide (i.id ∈ l)).map fun i => dltE i x.r).sum = ((List.range its.length).map fun i => if decide ((its.getD i itm0).id ∈ l) = true then dltE (its.getD i itm0) x.r else 0).sum := by
    conv => lhs; rw [its_range its]
    rw [List.filter_map, List.map_map, sum_flt]; rfl
  have hlen : (its.map dltS).length = its.length := by simp
  rw [e];unfold sumS;rw [hlen]
  congr 1
  refine List.map_congr_left fun i hi => ?_;have hi' := List.mem_range.1 hi;have hon := on_mem h.s.i on hi';rw [hl] at hon;have hv := amt_dlt (h.v (its.getD i itm0) (by rw [ZaK itm0 hi']; exact List.getElem_mem hi')) (h.w x hx);have hg : (its.map dltS).getD i [] = dltS (its.getD i itm0) := by rw [ZaK [] (by simpa using hi'), ZaK itm0 hi', List.getElem_map]
  rw [hg, hv]
  by_cases ho : on i = true
  · rw [if_pos ho, if_pos (decide_eq_true (hon.2 ho))]
  · rw [if_neg ho, if_neg (by simpa using fun h => ho (hon.1 h))]
theorem over_eq {p : Prb} {ros : List Roo} {its : List Itm} (h : PV p ros its) (on : Nat → Bool) {x : Roo} (hx : x ∈ ros) : overX its p.it (onIds its on its.length) x = poX (netS ros its on) (poS (its.map dltS) on x) := by
  unfold overX poX;rw [over_sum h on hx]
  have hov : (ovP (poS (its.map dltS) on x) (poS (its.map dltS) on x).sum = true) ↔ max x.n 0 + sumS (its.map dltS) on x.r < 0 := by
    unfold ovP aftP poS;rw [decide_eq_true_eq];dsimp only;have : (0 : Int) ≤ max x.n 0 := Int.le_max_right _ _;omega
  by_cases hc : max x.n 0 + sumS (its.map dltS) on x.r < 0
  · rw [if_pos hc, if_pos (hov.2 hc), q_ids h.v (h.w x hx), ← List.map_reverse, List.find?_map];show Option.map _ (Option.map _ _) = Option.map _ ((negQ (its.map dltS) x.r).reverse.find? _)
    have e : (negQ (its.map dltS) x.r).reverse.find? ((fun a => decide (a ∈ onIds its on its.length)) ∘ fun i => (its.getD i itm0).id) = (negQ (its.map dltS) x.r).reverse.find? (onN (netS ros its on)) := find_congr fun i hi => by
      have hl := negQ_lt (List.mem_reverse.1 hi);rw [List.length_map] at hl;show decide ((its.getD i itm0).id ∈ _) = onN _ i;unfold onN;rw [S_getN hl];show _ = on i;have := on_mem h.s.i on hl
      cases ho : on i with
      | true => exact decide_eq_true (this.2 ho)
      | false => exact decide_eq_false fun h => by rw [this.1 h] at ho; cases ho
    rw [e]
    cases hf : (negQ (its.map dltS) x.r).reverse.find? (onN (netS ros its on)) with
    | none => rfl
    | some i =>
      have hl := negQ_lt (List.mem_reverse.1 (List.mem_of_find?_eq_some hf));rw [List.length_map] at hl;show some _ = some _
      congr 1
      have hg : (netS ros its on).nd.getD i nd0 = ndS (ros.map Roo.r) its on i := S_getN hl;show Exc.mk (its.getD i itm0).id 0 x.r (-1) = Exc.mk ((netS ros its on).nd.getD i nd0).it.id 0 x.r (-1);rw [hg]; rfl
  · rw [if_neg hc, if_neg fun h => hc (hov.1 h)]
end Go.Proofs.YtneihdahboilnaaGreat
/- Layer 30: what blocks an item, in two words. Plain laws. -/
namespace Go.Proofs.YtneihdahboilnaaGreat
open Go.RowKit

theorem find_idx {α : Type} (p : α → Bool) : ∀ (A : List α), A.find? p = A[A.findIdx p]?
  | [] => rfl
  | a :: A => by
    rw [List.find?_cons, List.findIdx_cons]
    cases hp : p a with
    | true => rfl
    | false => rw [find_idx p A]; rfl
theorem dlt_ris (X : Itm) : (dltS X).Pairwise fun a b => cmpR a.1 b.1 < 0 := by
  unfold dltS
  split
  · exact dltC_ris (ctr X)
  · exact List.Pairwise.nil
theorem pl_eq {p : Prb} {ros : List Roo} {its : List Itm} (h : PV p ros its) (ds : List (List (Rsc × Int))) (X : Itm) : plK (ros.map Roo.r) ds (dltS X) = (ros.filter fun x => decide (amt (dltS X) x.r < 0)).map fun x => ((ros.map Roo.r).idxOf x.r, (negQ ds x.r).length) := by
  have key : ((dltS X).filter fun d => decide (d.1 ∈ ros.map Roo.r) && decide (d.2 < 0)).map Prod.fst = (ros.filter fun x => decide (amt (dltS X) x.r < 0)).map Roo.r := by
    refine strict_one (R := fun a b => cmpR a b < 0) (fun x => by rw [ZbH.refl]; omega) (fun x y z => ZbH.trans x y z) ?_ ?_ fun r => ?_
    · rw [List.pairwise_map]; exact List.Pairwise.filter _ (dlt_ris X)
    · rw [List.pairwise_map]; exact List.Pairwise.filter _ h.up
    · constructor
      · intro hr;obtain ⟨d, hd, rfl⟩ := List.mem_map.1 hr;obtain ⟨h1, h2⟩ := List.mem_filter.1 hd;rw [Bool.and_eq_true, decide_eq_true_eq, decide_eq_true_eq] at h2;obtain ⟨x, hx, e⟩ := List.mem_map.1 h2.1;refine List.mem_map.2 ⟨x, List.mem_filter.2 ⟨hx, ?_⟩, e⟩;have : amt (dltS X) d.1 = d.2 := ZbU (Zb8 X) h1;rw [e, this]; exact decide_eq_true h2.2
      · intro hr;obtain ⟨x, hx, rfl⟩ := List.mem_map.1 hr;obtain ⟨h1, h2⟩ := List.mem_filter.1 hx;have h2 := of_decide_eq_true h2
        have hk : x.r ∈ (dltS X).map Prod.fst := Classical.byContradiction fun hn => by
          have : amt (dltS X) x.r = 0 := mget_not hn;omega
        obtain ⟨d, hd, e⟩ := List.mem_map.1 hk;have : amt (dltS X) d.1 = d.2 := ZbU (Zb8 X) hd;rw [e] at this;refine List.mem_map.2 ⟨d, List.mem_filter.2 ⟨hd, ?_⟩, e⟩;rw [Bool.and_eq_true, decide_eq_true_eq, decide_eq_true_eq];exact ⟨by rw [e]; exact List.mem_map.2 ⟨x, h1, rfl⟩, by omega⟩
  have e1 : plK (ros.map Roo.r) ds (dltS X) = (((dltS X).filter fun d => decide (d.1 ∈ ros.map Roo.r) && decide (d.2 < 0)).map Prod.fst).map fun r => ((ros.map Roo.r).idxOf r, (negQ ds r).length) := by
    unfold plK; rw [List.map_map]; rfl
  rw [e1, key, List.map_map]; rfl
theorem po_at {p : Prb} {ros : List Roo} {its : List Itm} (h : PV p ros its) (on : Nat → Bool) {x : Roo} (hx : x ∈ ros) : (netS ros its on).po.getD ((ros.map Roo.r).idxOf x.r) po0 = poS (its.map dltS) on x := by
  obtain ⟨j, hj, rfl⟩ := List.getElem_of_mem hx;have hj' : j < (ros.map Roo.r).length := by simpa using hj
  have e : (ros.map Roo.r).idxOf ros[j].r = j := by
    have := idx_nodup h.s.r hj';rw [List.getElem_map] at this; exact this
  rw [e];show (ros.map _).getD j po0 = _;rw [ZaK po0 (by simpa using hj), List.getElem_map]
theorem id_inj {its : List Itm} (hn : (its.map Itm.id).Nodup) {i j : Nat} (hi : i < its.length) (hj : j < its.length) (h : (its.getD i itm0).id = (its.getD j itm0).id) : i = j := by
  rw [ZaK itm0 hi, ZaK itm0 hj] at h
  have h3 : (its.map Itm.id)[i]'(by simpa using hi) = (its.map Itm.id)[j]'(by simpa using hj) := by
    rw [List.getElem_map, List.getElem_map]; exact h
  exact (List.getElem_inj hn).1 h3
theorem blkR_eq {p : Prb} {ros : List Roo} {its : List Itm} (h : PV p ros its) (on : Nat → Bool) {i : Nat} (hi : i < its.length) {x : Roo} (hx : x ∈ ros) :
    blkR its (onIds its on its.length) (its.getD i itm0).id x = if amt (dltS (its.getD i itm0)) x.r < 0 then (if badP (netS ros its on) ((ros.map Roo.r).idxOf x.r, (negQ ((its.map dltS).take i) x.r).length) = true then some (excQ (netS ros its on) (ndS (ros.map Roo.r) its on i) ((ros.map Roo.r).idxOf x.r, (negQ ((its.map dltS).take i) x.r).length)) else none) else none := by
  have hdi : i < (its.map dltS).length := by simpa using hi
  have hg : (its.map dltS).getD i [] = dltS (its.getD i itm0) := by rw [ZaK [] hdi, ZaK itm0 hi, List.getElem_map]
  have hq := q_ids h.v (h.w x hx);obtain ⟨B, c1, c2, c3⟩ := negQ_cut hdi x.r;rw [hg] at c1
  have hin : (its.getD i itm0).id ∈ qIds its x.r ↔ amt (dltS (its.getD i itm0)) x.r < 0 := by
    rw [hq, List.mem_map]
    constructor
    · rintro ⟨j, hj, e⟩;have hjl := negQ_lt hj;rw [List.length_map] at hjl;have := id_inj h.s.i hjl hi e;subst this;have := (List.mem_filter.1 hj).2;rw [hg] at this; exact of_decide_eq_true this
    · intro ha;refine ⟨i, ?_, rfl⟩;rw [c1, if_pos ha]; simp
  unfold blkR
  by_cases ha : amt (dltS (its.getD i itm0)) x.r < 0
  · rw [if_pos (hin.2 ha), if_pos ha];rw [if_pos ha] at c1
    obtain ⟨A, hA⟩ : ∃ A, negQ ((its.map dltS).take i) x.r = A := ⟨_, rfl⟩
    rw [hA] at c1 c2 ⊢
    have hQ : qIds its x.r = A.map (fun j => (its.getD j itm0).id) ++ ((its.getD i itm0).id :: B.map fun j => (its.getD j itm0).id) := by
      rw [hq, c1, List.map_append, List.singleton_append, List.map_cons]
    have hAl : (A.map fun j => (its.getD j itm0).id).length = A.length := List.length_map _;have hlt : A.length < (qIds its x.r).length := by rw [hQ, List.length_append, hAl]; simp
    have htk : (qIds its x.r).take A.length = A.map fun j => (its.getD j itm0).id := by rw [hQ, ← hAl, List.take_left']; rfl
    have hat : (qIds its x.r)[A.length] = (its.getD i itm0).id := by
      have : (qIds its x.r)[A.length]? = some (its.getD i itm0).id := by
        rw [hQ, List.getElem?_append_right (by omega), hAl, Nat.sub_self]; rfl
      rw [List.getElem?_eq_getElem hlt] at this; exact Option.some.inj this
    rw [tw_take hlt (fun a ha => by
      rw [htk] at ha;obtain ⟨j, hj, rfl⟩ := List.mem_map.1 ha;have := c2 j hj
      exact decide_eq_true fun e => by have := id_inj h.s.i (by omega) hi e; omega) (by rw [hat]; simp), htk, List.find?_map]
    have e1 : A.find? ((fun a => decide (a ∉ onIds its on its.length)) ∘ fun j => (its.getD j itm0).id) = A.find? fun j => !on j := find_congr fun j hj => by
      have hjl : j < its.length := by have := c2 j hj; omega
      have := on_mem h.s.i on hjl;show decide ((its.getD j itm0).id ∉ _) = !on j
      cases ho : on j with
      | true => exact decide_eq_false fun hn => hn (this.2 ho)
      | false => exact decide_eq_true fun hn => by rw [this.1 hn] at ho; cases ho
    rw [e1, find_idx]
    have hmi : ((netS ros its on).po.getD ((ros.map Roo.r).idxOf x.r) po0).mi = if A.findIdx (fun j => !on j) < A.length then A.findIdx fun j => !on j else (([i] : List Nat) ++ B).findIdx (fun j => !on j) + A.length := by
      rw [po_at h on hx];show miS on (negQ (its.map dltS) x.r) = _;unfold miS;rw [c1, fidx_app]
    have hpq : ((netS ros its on).po.getD ((ros.map Roo.r).idxOf x.r) po0).q = negQ (its.map dltS) x.r := by rw [po_at h on hx]; rfl
    have hpr : ((netS ros its on).po.getD ((ros.map Roo.r).idxOf x.r) po0).r = x.r := by rw [po_at h on hx]; rfl
    unfold badP excQ;dsimp only;rw [hmi, hpq, hpr]
    by_cases hm : A.findIdx (fun j => !on j) < A.length
    · rw [if_pos hm, if_pos (decide_eq_true hm), List.getElem?_eq_getElem hm];have hjm := List.getElem_mem hm;have hjl : A[A.findIdx fun j => !on j] < its.length := by have := c2 _ hjm; omega
      have e2 : (negQ (its.map dltS) x.r).getD (A.findIdx fun j => !on j) 0 = A[A.findIdx fun j => !on j] := by
        rw [c1, List.getD_eq_getElem?_getD, List.getElem?_append_left hm, List.getElem?_eq_getElem hm]; rfl
      rw [e2, S_getN hjl]; rfl
    · rw [if_neg hm, if_neg (by simp), List.getElem?_eq_none (by omega)]; rfl
  · rw [if_neg (fun hh => ha (hin.1 hh)), if_neg ha]
end Go.Proofs.YtneihdahboilnaaGreat
/- Layer 30: the removal procedure is the reference's. Plain laws. -/
namespace Go.Proofs.YtneihdahboilnaaGreat
open Go.RowKit

theorem block_eq {p : Prb} {ros : List Roo} {its : List Itm} (h : PV p ros its) (on : Nat → Bool) {i : Nat} (hi : i < its.length) : blockR p (onIds its on its.length) (its.getD i itm0).id = inadm (netS ros its on) (ndS (ros.map Roo.r) its on i) := by
  have hXm : its.getD i itm0 ∈ its := by rw [ZaK itm0 hi]; exact List.getElem_mem hi
  have hXp : its.getD i itm0 ∈ p.it := by rw [← h.hi] at hXm; rw [← h.hi]; exact (Za9 p.it).mem_iff.1 hXm
  have e1 : ros.findSome? (blkR its (onIds its on its.length) (its.getD i itm0).id) = ((plK (ros.map Roo.r) ((its.map dltS).take i) (dltS (its.getD i itm0))).find? (badP (netS ros its on))).map (excQ (netS ros its on) (ndS (ros.map Roo.r) its on i)) := by
    rw [pl_eq h, find_map_fs, ← fs_filter (p := fun x => decide (amt (dltS (its.getD i itm0)) x.r < 0)) (fun x hx hp => by rw [blkR_eq h on hi hx, if_neg (of_decide_eq_false hp)])];refine fs_congr fun x hx => ?_;obtain ⟨h1, h2⟩ := List.mem_filter.1 hx;rw [blkR_eq h on hi h1, if_pos (of_decide_eq_true h2)]
  have e2 : itmOf p (its.getD i itm0).id = its.getD i itm0 := by
    obtain ⟨hk, _, h2, h3⟩ := ZbO (p := p) (id := (its.getD i itm0).id) (List.mem_map.2 ⟨_, hXp, rfl⟩);refine ids_inj (Zcm (Zbn h.e).2.1) (by rw [h2]; exact List.getElem_mem hk) hXp h3
  have e3 : (its.getD i itm0).af.find? (fun a => decide (a ∉ onIds its on its.length)) = (its.getD i itm0).af.find? (offOf (netS ros its on)) := find_congr fun a ha => by
    have hm := h.s.a _ hXm a ha;have hj := List.idxOf_lt_length_of_mem hm;have hja := List.getElem_idxOf hj;unfold offOf;rw [S_ids]
    generalize (its.map Itm.id).idxOf a = j at hj hja ⊢
    have hj' : j < its.length := by simpa using hj
    rw [List.getElem_map] at hja;rw [S_getN hj'];show _ = !on j;have := on_mem h.s.i on hj';rw [ZaK itm0 hj', hja] at this
    cases ho : on j with
    | true => exact decide_eq_false fun hn => hn (this.2 ho)
    | false => exact decide_eq_true fun hn => by rw [this.1 hn] at ho; cases ho
  unfold blockR;rw [h.hr, h.hi, e1, e2, e3];unfold inadm
  show _ = match (plK (ros.map Roo.r) ((its.map dltS).take i) (dltS (its.getD i itm0))).find? (badP (netS ros its on)) with
    | some e => some (excQ (netS ros its on) (ndS (ros.map Roo.r) its on i) e)
    | none => match (its.getD i itm0).af.find? (offOf (netS ros its on)) with
      | some id => some ⟨(its.getD i itm0).id, 2, rscZ, id⟩
      | none => none
  cases (plK (ros.map Roo.r) ((its.map dltS).take i) (dltS (its.getD i itm0))).find? (badP (netS ros its on)) with
  | some e => rfl
  | none =>
    show ((its.getD i itm0).af.find? (offOf (netS ros its on))).map _ = _
    cases (its.getD i itm0).af.find? (offOf (netS ros its on)) <;> rfl
theorem next_eq {p : Prb} {ros : List Roo} {its : List Itm} (h : PV p ros its) (on : Nat → Bool) : nextR p (onIds its on its.length) = nextN (netS ros its on) := by
  have e1 : (onIds its on its.length).findSome? (blockR p (onIds its on its.length)) = (netS ros its on).nd.findSome? (ndX (netS ros its on)) := by
    show (((List.range its.length).filter on).map fun i => (its.getD i itm0).id).findSome? _ = ((List.range its.length).map _).findSome? _;rw [List.findSome?_map, List.findSome?_map]
    rw [← fs_filter (p := on) (l := List.range its.length) (f := ndX (netS ros its on) ∘ ndS (ros.map Roo.r) its on) (fun i _ ho => by
      show ndX _ (ndS _ _ _ i) = none;unfold ndX;rw [if_neg];show ¬ (on i = true)
      rw [ho]; simp)]
    refine fs_congr fun i hi => ?_;obtain ⟨h1, h2⟩ := List.mem_filter.1 hi;show blockR p _ (its.getD i itm0).id = ndX _ (ndS _ _ _ i);rw [block_eq h on (List.mem_range.1 h1)];unfold ndX;rw [if_pos];exact h2
  have e2 : ros.findSome? (overX its p.it (onIds its on its.length)) = (netS ros its on).po.findSome? (poX (netS ros its on)) := by
    show _ = (ros.map _).findSome? _;rw [List.findSome?_map];exact fs_congr fun x hx => over_eq h on hx
  unfold nextR nextN;rw [h.hr, h.hi, e1, e2]
  cases (netS ros its on).nd.findSome? (ndX (netS ros its on)) <;> rfl
theorem without_off {its : List Itm} (hn : (its.map Itm.id).Nodup) (on : Nat → Bool) {i : Nat} (hi : i < its.length) : without (onIds its on its.length) (its.getD i itm0).id = onIds its (setOff on i) its.length := by
  unfold without onIds;rw [List.filter_map, List.filter_filter]
  congr 1
  refine List.filter_congr fun j hj => ?_;have hj' := List.mem_range.1 hj;show (decide ((its.getD j itm0).id ≠ (its.getD i itm0).id) && on j) = setOff on i j
  by_cases e : j = i
  · subst e; rw [setOff_at]; simp
  · have hne : (its.getD j itm0).id ≠ (its.getD i itm0).id := fun h => e (id_inj hn hj' hi h);rw [Zck e, decide_eq_true hne, Bool.true_and]
theorem run_eq {p : Prb} {ros : List Roo} {its : List Itm} (h : PV p ros its) : ∀ (f : Nat) (on : Nat → Bool), runR p f (onIds its on its.length) = ((runS ros its f on).1, onIds its (runS ros its f on).2 its.length)
  | 0, on => rfl
  | f + 1, on => by
    cases hne : nextN (netS ros its on) with
    | none => rw [runR_none (by rw [next_eq h, hne]), run_none hne]
    | some e =>
      obtain ⟨i, x, hx, hon, hid⟩ := next_on hne
      have hN : ersN (netS ros its on) = netS ros its on := by
        unfold ersN netS;dsimp only;rw [List.map_map, List.map_map]; rfl
      obtain ⟨hi, _, hit⟩ := S_nd_at hN hx;have hei : (its.getD i itm0).id = e.id := by rw [hid, hit]
      have hidx : (its.map Itm.id).idxOf e.id = i := by
        have h1 := idx_nodup h.s.i (i := i) (by simpa using hi);rw [List.getElem_map] at h1;rw [← hei, ZaK itm0 hi]; exact h1
      rw [runR_some (by rw [next_eq h, hne]), run_some hne, hidx, ← hei, without_off h.s.i on hi, run_eq h f]
theorem expl_eq {p : Prb} (hE : prbE p = 0) (hf : FewP p) : explR p = ((explS p).1, largeS p) := by
  have h := pv_of hE hf;have h1 : ordP p = sortO p.it := if_pos hE
  have h2 : (sortO p.it).map Itm.id = onIds (sortO p.it) (fun _ => true) (sortO p.it).length := by
    conv => lhs; rw [its_range (sortO p.it)]
    unfold onIds;rw [List.map_map, List.filter_eq_self.2 (fun _ _ => rfl)]; rfl
  unfold explR largeS explS;rw [h1, h2, run_eq h]
end Go.Proofs.YtneihdahboilnaaGreat
/- Layer 30: the law's helpers. -/
namespace Go.Proofs.YtneihdahboilnaaGreat
open Go.RowKit

def FewQ (p : Prb) (n : Nat) : Prop := p.it.length ≤ n ∧ p.ro.length ≤ 30 ∧ ∀ i ∈ p.it, i.po.length ≤ 8 ∧ i.pa.length ≤ 8 ∧ i.af.length ≤ 8
instance (p : Prb) (n : Nat) : Decidable (FewQ p n) := inferInstanceAs (Decidable (_ ∧ _ ∧ ∀ i ∈ p.it, _))
theorem few_of {p : Prb} {n : Nat} (h : FewQ p n) (hn : n ≤ 30) : FewP p := ⟨by have := h.1; omega, by have := h.2.1; omega, h.2.2⟩
set_option maxRecDepth 100000 in
theorem few_p (p : Prb) (n : Nat) (hn : n ≤ 1000) : PCalls Tryz.prog 13 [.d (prbD p), .d (intD (n : Int))] (boolD (decide (FewQ p n))) := by
  refine Zaz Tryz.func13 rfl rfl Tryz.ntmps13 rfl rfl rfl fun F hF => (Zaf (Zab (Zal.go (ZaO 1 rfl rfl rfl rfl rfl rfl rfl) (Zaa.go (Zad rfl rfl) (Zae (Zaf ?_))))));refine Zaf (Zab (Zaa.go (Zai rfl Zbd rfl rfl rfl) (Zaa.go (Zaj rfl rfl rfl on23 rfl) (Zaa.go (Zax rfl Tryz.underlying23 rfl) (Zaa.go (Zac rfl rfl) (Zaa.go (Zbq rfl rfl rfl) (Zaa.go (Zac rfl rfl) (ZaT 11 rfl (fun h11 => ?_) (fun h11 => ?_)))))))))
  · refine Zak rfl rfl rfl rfl (Zak rfl rfl rfl rfl (Zak rfl rfl rfl rfl ?_));refine Zak rfl rfl rfl rfl (Zaa.go (Zaw rfl rfl rfl rfl) (Zae (ZaQ rfl rfl (Zaf (Zab (Zaa.go (Zad rfl rfl) (Zae (Zas ?_))))))));exact ⟨_, [], [], Zao rfl, rfl, rfl, retF (fun h => by have h1 := h.1; have h2 := h.2.1; omega), rfl⟩
  · refine Zam rfl rfl rfl (Zaa.go (Zai rfl Zbj rfl rfl rfl) ?_);refine Zam rfl rfl rfl (Zaa.go (Zaj rfl rfl rfl on22 rfl) (Zam rfl rfl rfl (Zaa.go (Zax rfl Tryz.underlying22 rfl) (Zam rfl rfl rfl (Zaa.go (Zbq rfl rfl rfl) (Zaa.go (ZaB rfl rfl rfl rfl) (Zae (ZaE rfl (fun h16 => ?_) (fun h16 => ?_)))))))))
    · refine Zaf (Zab (Zaa.go (Zad rfl rfl) (Zae (Zas ?_))));exact ⟨_, [], [], Zao rfl, rfl, rfl, retF (fun h => by have h1 := h.1; have h2 := h.2.1; omega), rfl⟩
    · refine Zaq (Zaf (Zaf (Zab (Zaa.go (Zad rfl rfl) (Zae (Zar (ZaH (α := Nat) (fun k => ⟨52, [(2, (.ptr 1 0 0)), (5, (.d (intD (k : Int))))], [(1, [prbB2 25 p])]⟩) (fun k => k ≤ p.it.length ∧ ∀ i ∈ p.it.take k, i.po.length ≤ 8 ∧ i.pa.length ≤ 8 ∧ i.af.length ≤ 8) (fun k => p.it.length - k) (0) (⟨Nat.zero_le _, by simp⟩) (Zat hF [1] rfl rfl ⟨rfl, rfl, trivial⟩) ?_)))))));rintro k ⟨hk0, hk⟩;refine Zaf ?_;refine Zaf (Zab (Zaa.go (Zac rfl rfl) (Zaa.go (Zai rfl Zbd rfl rfl rfl) (Zaa.go (Zaj rfl rfl rfl on23 rfl) (Zaa.go (Zax rfl Tryz.underlying23 rfl) (Zaa.go (ZaG rfl rfl rfl) (Zae (ZaE rfl (fun h21 => ?_) (fun h21 => ?_)))))))))
      · have hk1 : k < p.it.length := ZaJ h21;refine Zaq (Zaf (Zar (Zaf (Zab (Zaa.go (Zai rfl Zbd rfl rfl rfl) ?_)))));refine Zaa.go (Zaj rfl rfl rfl on23 rfl) (Zaa.go (Zac rfl rfl) (Zaa.go (Zav (k) rfl rfl (rfl) (getm hk1) Tryz.underlying23 rfl sz64 rfl) (Zaa.go (Za3 rfl fi64_3 rfl rfl rfl) (Zaa.go (ZaF rfl rfl on61 rfl) (Zaa.go (Zax rfl Tryz.underlying61 rfl) (Zaa.go (Zbq rfl rfl rfl) (Zaa.go (Zac rfl rfl) (ZaT 32 rfl (fun h32 => ?_) (fun h32 => ?_)))))))))
        · refine Zak rfl rfl rfl rfl (Zak rfl rfl rfl rfl (Zak rfl rfl rfl rfl (Zak rfl rfl rfl rfl (Zak rfl rfl rfl rfl (Zak rfl rfl rfl rfl (Zak rfl rfl rfl rfl (Zak rfl rfl rfl rfl ?_)))))));refine Zaa.go (Zaw rfl rfl rfl rfl) (Zaa.go (Zac rfl rfl) (Zak rfl rfl rfl rfl (Zak rfl rfl rfl rfl (Zak rfl rfl rfl rfl (Zak rfl rfl rfl rfl (Zak rfl rfl rfl rfl (Zak rfl rfl rfl rfl (Zak rfl rfl rfl rfl ?_))))))));refine Zak rfl rfl rfl rfl (Zaa.go (Zaw rfl rfl rfl rfl) (Zae (ZaQ rfl rfl (Zaf (Zab (Zaa.go (Zad rfl rfl) (Zae (Zas ?_))))))));exact ⟨_, [], [], Zao rfl, rfl, rfl, retF (fun h => by have h1 := h.2.2 _ (List.getElem_mem hk1); omega), rfl⟩
        · refine Zam rfl rfl rfl ?_;refine Zaa.go (Zai rfl Zbd rfl rfl rfl) (Zam rfl rfl rfl (Zaa.go (Zaj rfl rfl rfl on23 rfl) (Zam rfl rfl rfl (Zaa.go (Zac rfl rfl) (Zam rfl rfl rfl (Zaa.go (Zav (k) rfl rfl (rfl) (getm hk1) Tryz.underlying23 rfl sz64 rfl) (Zam rfl rfl rfl (Zaa.go (Za3 rfl fi64_4 rfl rfl rfl) ?_))))))));refine Zam rfl rfl rfl (Zaa.go (ZaF rfl rfl on62 rfl) (Zam rfl rfl rfl (Zaa.go (Zax rfl Tryz.underlying62 rfl) (Zam rfl rfl rfl (Zaa.go (Zbq rfl rfl rfl) (Zaa.go (ZaB rfl rfl rfl rfl) (Zaa.go (Zac rfl rfl) (ZaT 42 rfl (fun h42 => ?_) (fun h42 => ?_)))))))))
          · refine Zak rfl rfl rfl rfl (Zak rfl rfl rfl rfl (Zak rfl rfl rfl rfl (Zak rfl rfl rfl rfl (Zak rfl rfl rfl rfl (Zak rfl rfl rfl rfl (Zak rfl rfl rfl rfl ?_))))));refine Zak rfl rfl rfl rfl (Zaa.go (Zaw rfl rfl rfl rfl) (Zae (ZaQ rfl rfl (Zaf (Zab (Zaa.go (Zad rfl rfl) (Zae (Zas ?_))))))));exact ⟨_, [], [], Zao rfl, rfl, rfl, retF (fun h => by have h1 := h.2.2 _ (List.getElem_mem hk1); omega), rfl⟩
          · refine Zam rfl rfl rfl ?_;refine Zaa.go (Zai rfl Zbd rfl rfl rfl) (Zam rfl rfl rfl (Zaa.go (Zaj rfl rfl rfl on23 rfl) (Zam rfl rfl rfl (Zaa.go (Zac rfl rfl) (Zam rfl rfl rfl (Zaa.go (Zav (k) rfl rfl (rfl) (getm hk1) Tryz.underlying23 rfl sz64 rfl) (Zam rfl rfl rfl (Zaa.go (Za3 rfl ZbX rfl rfl rfl) ?_))))))));refine Zam rfl rfl rfl (Zaa.go (ZaF rfl rfl on28 rfl) (Zam rfl rfl rfl (Zaa.go (Zax rfl Tryz.underlying28 rfl) (Zam rfl rfl rfl (Zaa.go (Zbq rfl rfl rfl) (Zaa.go (ZaB rfl rfl rfl rfl) (Zae (ZaE rfl (fun h51 => ?_) (fun h51 => ?_)))))))))
            · refine Zaf (Zab (Zaa.go (Zad rfl rfl) (Zae (Zas ?_))));exact ⟨_, [], [], Zao rfl, rfl, rfl, retF (fun h => by have h1 := h.2.2 _ (List.getElem_mem hk1); omega), rfl⟩
            · refine Zaq (Zab (Zaa.go (Zac rfl rfl) (Zaa.go (Zay rfl rfl (wrapS (k + 1) (by omega)) rfl) (Zaa.go (Zad rfl rfl) (Zae ?_)))));exact ⟨k + 1, ⟨by show k + 1 ≤ _; omega, by rw [List.take_succ_eq_append_getElem hk1]; intro i hi; rcases List.mem_append.1 hi with hi | hi; exact hk i hi; rw [List.mem_singleton.1 hi]; omega⟩, by show p.it.length - (k + 1) < p.it.length - k; omega, Zat hF [1] rfl (rfl) ⟨rfl, rfl, trivial⟩⟩
      · refine ZaI (Zaf (Zab (Zaa.go (Zad rfl rfl) (Zae (Zas ?_)))));exact ⟨_, [], [], Zao rfl, rfl, rfl, retT ⟨by omega, by omega, fun i hi => hk i (by rw [List.take_of_length_le (by have h := h21; omega)]; exact hi)⟩, rfl⟩
set_option maxRecDepth 100000 in
theorem same30_p (l m : List Int) (hl : l.length ≤ 100000) (hm : m.length ≤ 100000) : PCalls Tryz.prog 19 [.d (.sl none (l.map intD)), .d (.sl none (m.map intD))] (boolD (decide (l = m))) := by
  refine Zaz Tryz.func19 rfl rfl Tryz.ntmps19 rfl rfl rfl fun F hF => (Zaf (Zab (Zaa.go (Zad rfl rfl) (Zae (Zaf ?_)))));refine Zaf (Zab (Zaa.go (Zac rfl rfl) (Zaa.go (Zax rfl Tryz.underlying28 rfl) (Zaa.go (Zac rfl rfl) (Zaa.go (Zax rfl Tryz.underlying28 rfl) (Zaa.go (ZaX rfl rfl rfl) (Zae (ZaE rfl (fun h10 => ?_) (fun h10 => ?_)))))))))
  · refine Zaf (Zab (Zaa.go (Zad rfl rfl) (Zae (Zas ?_))));exact ⟨_, [], [], Zao rfl, rfl, rfl, retF (fun h => by have h1 := congrArg List.length h; have h := h10; omega), rfl⟩
  · refine Zaq (Zaf (Zaf ?_));have hlen : l.length = m.length := by have h := h10; omega
    refine Zab (Zaa.go (Zad rfl rfl) (Zae (Zar (ZaH (α := Nat) (fun k => ⟨26, [(0, .d (.sl none (l.map intD))), (1, .d (.sl none (m.map intD))), (5, (.d (intD (k : Int))))], []⟩) (fun k => k ≤ l.length ∧ l.take k = m.take k) (fun k => l.length - k) (0) (⟨Nat.zero_le _, by simp⟩) (Zat hF [] rfl rfl ⟨rfl, rfl, rfl, trivial⟩) ?_))));rintro k ⟨hk0, hk⟩;refine Zaf (Zaf (Zab (Zaa.go (Zac rfl rfl) (Zaa.go (Zac rfl rfl) (Zaa.go (Zax rfl Tryz.underlying28 rfl) (Zaa.go (ZaG rfl rfl rfl) (Zae (ZaE rfl (fun h14 => ?_) (fun h14 => ?_)))))))))
    · have hk1 : k < l.length := ZaJ h14;refine Zaq (Zaf (Zar (Zaf ?_)));have hk2 : k < m.length := by omega
      refine ZaV [[], [], [0, 1], [0, 1, 2], [], [], [4, 5], [4, 5, 6], [0, 1, 2, 3, 4, 5, 6, 7]] mixed rfl (dws (Zah [0] [] rfl rfl (fun _ => Zag (Zac rfl rfl)) (Zah [5] [] rfl rfl (fun _ => Zag (Zac rfl rfl)) (Zah [17, 18] [] rfl rfl (fun _ => Zag (Zav (k) rfl rfl (rfl) (getm hk1) Tryz.underlying28 rfl sz3 rfl)) ?_))));refine Zah [19] [] rfl rfl (fun _ => Zag (ZaF rfl rfl on3 rfl)) (Zah [1] [] rfl rfl (fun _ => Zag (Zac rfl rfl)) (Zah [5] [] rfl rfl (fun _ => Zag (Zac rfl rfl)) (Zah [21, 22] [] rfl rfl (fun _ => Zag (Zav (k) rfl rfl (rfl) (getm hk2) Tryz.underlying28 rfl sz3 rfl)) (Zah [23] [] rfl rfl (fun _ => Zag (ZaF rfl rfl on3 rfl)) (dwc 8 rfl rfl rfl (dw1 9 rfl rfl (Zaa.go (ZaX rfl rfl rfl) (Zae ⟨rfl, ?_⟩))))))));refine dwe (ZaE rfl (fun h25 => ?_) (fun h25 => ?_))
      · refine Zaf (Zab (Zaa.go (Zad rfl rfl) (Zae (Zas ?_))));exact ⟨_, [], [], Zao rfl, rfl, rfl, retF (fun h => by subst h; exact h25 rfl), rfl⟩
      · refine Zaq (Zab (Zaa.go (Zac rfl rfl) (Zaa.go (Zay rfl rfl (wrapS (k + 1) (by omega)) rfl) (Zaa.go (Zad rfl rfl) (Zae ?_)))));exact ⟨k + 1, ⟨by show k + 1 ≤ _; omega, by rw [List.take_succ_eq_append_getElem hk1, List.take_succ_eq_append_getElem hk2, hk, Classical.not_not.1 h25]⟩, by show l.length - (k + 1) < l.length - k; omega, Zat hF [] rfl (rfl) ⟨rfl, rfl, rfl, trivial⟩⟩
    · refine ZaI (Zaf (Zab (Zaa.go (Zad rfl rfl) (Zae (Zas ?_)))));exact ⟨_, [], [], Zao rfl, rfl, rfl, retT (by have h1 := hk; rw [List.take_of_length_le (by have h := h14; omega), List.take_of_length_le (by have h := h14; omega)] at h1; exact h1), rfl⟩
end Go.Proofs.YtneihdahboilnaaGreat
/- Layer 30: the reference's feasible sets; AtRest. -/
namespace Go.Proofs.YtneihdahboilnaaGreat
open Go.RowKit

def feasR (p : Prb) (l : List Int) : Prop := (∀ id ∈ l, blockR p l id = none) ∧ ∀ x ∈ p.ro, ¬ overL p.it x l < 0
noncomputable instance (p : Prb) (l : List Int) : Decidable (feasR p l) := Classical.propDecidable _
end Go.Proofs.YtneihdahboilnaaGreat
/- Layer 30: what the removal leaves is the largest feasible set. Plain laws. -/
namespace Go.Proofs.YtneihdahboilnaaGreat
open Go.RowKit

end Go.Proofs.YtneihdahboilnaaGreat
/- Layer 30: every feasible set lies in what the removal leaves. Plain laws. -/
namespace Go.Proofs.YtneihdahboilnaaGreat
open Go.RowKit

end Go.Proofs.YtneihdahboilnaaGreat
/- Layer 30: the reference's union of all feasible sets. -/
namespace Go.Proofs.YtneihdahboilnaaGreat
open Go.RowKit

def sub30 (ids : List Int) (m k : Nat) : List Int := ((List.range k).filter fun j => decide (m / 2 ^ j % 2 = 1)).map fun j => ids.getD j 0
def InU (p : Prb) (ids : List Int) (M : Nat) (x : Int) : Prop := ∃ m, m < M ∧ feasR p (sub30 ids m ids.length) ∧ x ∈ sub30 ids m ids.length
noncomputable instance (p : Prb) (ids : List Int) (M : Nat) (x : Int) : Decidable (InU p ids M x) := Classical.propDecidable _
end Go.Proofs.YtneihdahboilnaaGreat
/- Layer 30: the union of all feasible sets is what the removal leaves. Plain laws. -/
namespace Go.Proofs.YtneihdahboilnaaGreat
open Go.RowKit

end Go.Proofs.YtneihdahboilnaaGreat
/- Layer 30: conversion of problems, the payments of the example. -/
namespace Go.Proofs.YtneihdahboilnaaGreat
open Go.RowKit

set_option maxRecDepth 100000 in
theorem own30_p (p : Prb) (h : FewP p) : PCalls Tryz.prog 16 [.d (prbD p)] (prbD p) := by
  obtain ⟨g1, g2, g3⟩ := h;refine Zaz Tryz.func16 rfl rfl Tryz.ntmps16 rfl rfl rfl fun F hF => (Zaf (Zab (Zal.go (ZaO 1 rfl rfl rfl rfl rfl rfl rfl) (Zal.go (ZaR 2 zl35 rfl rfl rfl rfl) (Zae (Zaf (Zab (Zal.go (ZaR 3 zl35 rfl rfl rfl rfl) ?_))))))));refine Zae (Zaf (Zaf (Zcf 3 0 0 901 sl32 rfl rfl rfl rfl rfl rfl rfl (Zab (Zaa.go (Zad rfl rfl) (Zae (Zar (ZaH (α := List Roo) (fun acc => ⟨51, [(1, (.ptr 1 0 0)), (2, (.ptr 2 0 0)), (3, (.ptr 3 0 0)), (4, (.d (intD (acc.length : Int))))], [(901, [.rowD 82 7 (acc.map rooD)]), (1, [prbB2 25 p]), (2, [.blk 35 [nilC, nilC]]), (3, [.blk 35 [.own 901 0 acc.length, nilC]])]⟩) (fun acc => acc = p.ro.take acc.length ∧ acc.length ≤ p.ro.length) (fun acc => p.ro.length - acc.length) ([]) (⟨by simp, Nat.zero_le _⟩) (Zat hF [901, 1, 2, 3] rfl rfl ⟨rfl, rfl, rfl, rfl, trivial⟩) ?_))))))));rintro acc ⟨hI, hk0⟩;refine Zaf ?_;refine Zaf (Zab (Zaa.go (Zac rfl rfl) (Zaa.go (Zai rfl Zbj rfl rfl rfl) (Zaa.go (Zaj rfl rfl rfl on22 rfl) (Zaa.go (Zax rfl Tryz.underlying22 rfl) (Zaa.go (ZaG rfl rfl rfl) (Zae (ZaE rfl (fun h10 => ?_) (fun h10 => ?_)))))))))
  · have hk1 : acc.length < p.ro.length := ZaJ h10;refine Zaq (Zaf (Zar (ZaV [[], [0], [], [2], [], [2, 3, 4], [2, 3, 4, 5], [2, 3, 4, 5, 6], [2, 3, 4, 5, 6, 7], [], [9], [], [9, 10, 11], [9, 10, 11, 12], [9, 10, 11, 12, 13], [2, 3, 4, 5, 6, 7, 8, 9, 10, 11, 12, 13, 14], [2, 3, 4, 5, 6, 7, 8, 9, 10, 11, 12, 13, 14, 15], [0, 1, 2, 3, 4, 5, 6, 7, 8, 9, 10, 11, 12, 13, 14, 15, 16], [0, 1, 2, 3, 4, 5, 6, 7, 8, 9, 10, 11, 12, 13, 14, 15, 16, 17], [0, 1, 2, 3, 4, 5, 6, 7, 8, 9, 10, 11, 12, 13, 14, 15, 16, 17, 18]] mixed rfl (dws (Zah [3] [] rfl rfl (fun _ => Zag (Zai rfl fi35_0 rfl rfl rfl)) (ZaN [13] rfl rfl (fun _ => Zag (Zaj rfl rfl rfl on32 rfl)) (Zah [1] [] rfl rfl (fun _ => Zag (Zai rfl Zbj rfl rfl rfl)) ?_)))))));refine ZaN [15] rfl rfl (fun _ => Zag (Zaj rfl rfl rfl on22 rfl)) (Zah [4] [] rfl rfl (fun _ => Zag (Zac rfl rfl)) (Zah [16, 17] [] rfl rfl (fun _ => Zag (Zav (acc.length) rfl rfl (rfl) (getm hk1) Tryz.underlying22 rfl sz67 rfl)) (Zah [18] [] rfl rfl (fun _ => Zag (Zbb rfl fi67_0 rfl rfl rfl)) (Zah [19] [] rfl rfl (fun _ => Zag (ZaP rfl rfl rw56 rfl)) (Zah [20] [] rfl rfl (fun _ => Zag (Zan (ownres_p p.ro[acc.length].r) rfl rfl)) (Zah [1] [] rfl rfl (fun _ => Zag (Zai rfl Zbj rfl rfl rfl)) (ZaN [22] rfl rfl (fun _ => Zag (Zaj rfl rfl rfl on22 rfl)) (Zah [4] [] rfl rfl (fun _ => Zag (Zac rfl rfl)) ?_))))))));refine Zah [23, 24] [] rfl rfl (fun _ => Zag (Zav (acc.length) rfl rfl (rfl) (getm hk1) Tryz.underlying22 rfl sz67 rfl)) (Zah [25] [] rfl rfl (fun _ => Zag (Za3 rfl fi67_1 rfl rfl rfl)) (Zah [26] [] rfl rfl (fun _ => Zag (ZaF rfl rfl on2 rfl)) (Zah [21, 27] [] rfl rfl (fun _ => Zag (Za0 zl82 pl82 rfl rfl rfl)) (Zbi [28] [50] [(29, _)] rfl rfl (fun _ => Za7 (ZaC 50 sl32 rfl rfl rfl rfl rfl rfl rfl rfl)) (.inr ⟨29, _, rfl, rfl, rfl, rfl, rfl⟩) rfl rfl rfl rfl rfl (dwc 17 rfl rfl rfl (dw1 18 rfl rfl (Zal.go (Za6 (acc) ([p.ro[acc.length]]) rfl rfl rfl rfl rfl rfl rfl rfl sl32 (by simp only [List.length_singleton]; omega) rfl rfl rfl rfl) (Zae ⟨rfl, ?_⟩))))))));refine dw1 19 rfl rfl (Zaa.go (Zai rfl fi35_0 rfl rfl rfl) (Zae ⟨rfl, ?_⟩));refine dw1 20 rfl rfl (Zal.go (ZaA rfl rfl rfl rfl rfl rfl rfl sz32) (Zae ⟨rfl, ?_⟩));refine dwe (Zab (Zaa.go (Zac rfl rfl) (Zaa.go (Zay rfl rfl (wrapA acc p.ro[acc.length] (by omega)) rfl) (Zaa.go (Zad rfl rfl) (Zae ?_)))));exact ⟨acc ++ [p.ro[acc.length]], ⟨tk_next hI hk1, by rw [List.length_append]; show acc.length + 1 ≤ _; omega⟩, by rw [List.length_append]; show p.ro.length - (acc.length + 1) < p.ro.length - acc.length; omega, Zat hF [901, 1, 2, 3] rfl (rfl) ⟨rfl, rfl, rfl, rfl, trivial⟩⟩
  · refine ZaI (Zaf (Zaf ?_));have hacc := tk_end hI (fun h => h10 (by omega));refine ZbJ (ys := p.ro.map rooD) 3 0 0 901 rfl rfl rfl (by simp) (by rw [hacc]; exact List.take_of_length_le (by simp)) rfl rfl rfl rfl rfl rfl (Zcf 3 0 1 902 sl33 rfl rfl rfl rfl rfl rfl rfl (Zab (Zaa.go (Zad rfl rfl) (Zae (Zar (ZaH (α := List Itm) (fun acc2 => ⟨51, [(1, (.ptr 1 0 0)), (2, (.ptr 2 0 0)), (3, (.ptr 3 0 0)), (5, (.d (intD (acc2.length : Int))))], [(902, [.rowD 91 6 (acc2.map itmD)]), (1, [prbB2 25 p]), (2, [.blk 35 [nilC, nilC]]), (3, [.blk 35 [.d (.sl none (p.ro.map rooD)), .own 902 0 acc2.length]])]⟩) (fun acc2 => acc2 = p.it.take acc2.length ∧ acc2.length ≤ p.it.length) (fun acc2 => p.it.length - acc2.length) ([]) (⟨by simp, Nat.zero_le _⟩) (Zat hF [902, 1, 2, 3] rfl rfl ⟨rfl, rfl, rfl, rfl, trivial⟩) ?_))))));rintro acc2 ⟨hJ, hk2⟩;refine Zaf ?_;refine Zaf (Zab (Zaa.go (Zac rfl rfl) (Zaa.go (Zai rfl Zbd rfl rfl rfl) (Zaa.go (Zaj rfl rfl rfl on23 rfl) (Zaa.go (Zax rfl Tryz.underlying23 rfl) (Zaa.go (ZaG rfl rfl rfl) (Zae (ZaE rfl (fun h36 => ?_) (fun h36 => ?_)))))))))
    · have hk3 : acc2.length < p.it.length := ZaJ h36;refine Zaq ?_;refine Zaf (Zar (ZaV [[], [0], [], [2], [], [2, 3, 4], [2, 3, 4, 5], [2, 3, 4, 5, 6], [2, 3, 4, 5, 6, 7], [0, 1, 2, 3, 4, 5, 6, 7, 8], [0, 1, 2, 3, 4, 5, 6, 7, 8, 9], [0, 1, 2, 3, 4, 5, 6, 7, 8, 9, 10]] mixed rfl (dws (Zah [3] [] rfl rfl (fun _ => Zag (Zai rfl fi35_1 rfl rfl rfl)) (ZaN [39] rfl rfl (fun _ => Zag (Zaj rfl rfl rfl on33 rfl)) (Zah [1] [] rfl rfl (fun _ => Zag (Zai rfl Zbd rfl rfl rfl)) (ZaN [41] rfl rfl (fun _ => Zag (Zaj rfl rfl rfl on23 rfl)) (Zah [5] [] rfl rfl (fun _ => Zag (Zac rfl rfl)) ?_))))))));have hgi := g3 _ (List.getElem_mem hk3);refine Zah [42, 43] [] rfl rfl (fun _ => Zag (Zav (acc2.length) rfl rfl (rfl) (getm hk3) Tryz.underlying23 rfl sz64 rfl)) (Zah [44] [] rfl rfl (fun _ => Zag (ZaP rfl rfl rw64 rfl)) (Zah [45] [] rfl rfl (fun _ => Zag (Zan (ownitem_p p.it[acc2.length] (by omega) (by omega) (by omega)) rfl rfl)) (Zbi [46] [51] [(47, _)] rfl rfl (fun _ => Za7 (ZaC 51 sl33 rfl rfl rfl rfl rfl rfl rfl rfl)) (.inr ⟨47, _, rfl, rfl, rfl, rfl, rfl⟩) rfl rfl rfl rfl rfl (dwc 9 rfl rfl rfl (dw1 10 rfl rfl (Zal.go (Za6 (acc2) ([p.it[acc2.length]]) rfl rfl rfl rfl rfl rfl rfl rfl sl33 (by simp only [List.length_singleton]; omega) rfl rfl rfl rfl) (Zae ⟨rfl, ?_⟩)))))));refine dw1 11 rfl rfl (Zaa.go (Zai rfl fi35_1 rfl rfl rfl) (Zae ⟨rfl, ?_⟩));refine dw1 12 rfl rfl (Zal.go (ZaA rfl rfl rfl rfl rfl rfl rfl sz33) (Zae ⟨rfl, ?_⟩));refine dwe (Zab (Zaa.go (Zac rfl rfl) (Zaa.go (Zay rfl rfl (wrapA acc2 p.it[acc2.length] (by omega)) rfl) (Zaa.go (Zad rfl rfl) (Zae ?_)))));exact ⟨acc2 ++ [p.it[acc2.length]], ⟨tk_next hJ hk3, by rw [List.length_append]; show acc2.length + 1 ≤ _; omega⟩, by rw [List.length_append]; show p.it.length - (acc2.length + 1) < p.it.length - acc2.length; omega, Zat hF [902, 1, 2, 3] rfl (rfl) ⟨rfl, rfl, rfl, rfl, trivial⟩⟩
    · refine ZaI (Zaf ?_);have hacc2 := tk_end hJ (fun h => h36 (by omega));refine ZbJ (ys := p.it.map itmD) 3 0 1 902 rfl rfl rfl (by simp) (by rw [hacc2]; exact List.take_of_length_le (by simp)) rfl rfl rfl rfl rfl rfl (Zab (Zaa.go (Zap rfl rfl rw35 rfl rfl rfl) (Zal.go (ZaA rfl rfl rfl rfl rfl rfl rfl sz35) (Zae (Zas ?_)))));exact ⟨_, [], [], Zao rfl, rfl, rfl, rfl, rfl⟩
def accQ (a : List UInt8) : Acc := ⟨a, 0, [67, 65, 83, 72]⟩
def payJ (id : Int) (a b : List UInt8) (n : Int) : Itm := ⟨id, 0, id, [⟨accQ a, 0 - n⟩, ⟨accQ b, n⟩], [], []⟩
set_option maxRecDepth 100000 in
theorem pay0_p (id n : Int) (a b : List UInt8) (h0 : 0 ≤ n) (h1 : n ≤ 1000000000000000) : PCalls Tryz.prog 38 [.d (intD id), .d (strD a), .d (strD b), .d (intD n)] (.agg [intD id, intD 0, intD id, .sl none ((payJ id a b n).po.map postD), .sl (some true) [], .sl (some true) []]) := by
  refine Zaz Tryz.func38 rfl rfl Tryz.ntmps38 rfl rfl rfl fun F hF => (Zaf (Zab (Zal.go (ZaR 1 zl91 rfl rfl rfl rfl) (Zae (Zaf ?_)))));refine Zab (Zaa.go (Zac rfl rfl) (Zaa.go (Za0 zl49 pl49 rfl rfl rfl) (Zaa.go (Zac rfl rfl) (Zaa.go (Za0 zl49 pl49 rfl rfl rfl) (Zal.go (ZaR 2 zl49 rfl rfl rfl rfl) (Zal.go (ZaR 3 zl49 rfl rfl rfl rfl) (Zal.go (ZaA rfl rfl rfl rfl rfl rfl rfl sz49) (Zal.go (ZaA rfl rfl rfl rfl rfl rfl rfl sz49) ?_))))))));refine Zae (Zaf (Zab (Zaa.go (Zac rfl rfl) (Zaa.go (Zac rfl rfl) (Zaa.go (Zap rfl rfl rw49 rfl rfl rfl) (Zaa.go (Zac rfl rfl) (Zaa.go (st_neg rfl (IntWalk.i64_in _ (by omega)) rfl) (Zaa.go (Za0 zl144 pl144 rfl rfl rfl) ?_))))))));refine Zaa.go (Zap rfl rfl rw49 rfl rfl rfl) (Zaa.go (Zac rfl rfl) (Zaa.go (Za0 zl144 pl144 rfl rfl rfl) (Zal.go (ZaC 4 sl88 rfl rfl rfl rfl rfl rfl rfl rfl) (ZbZ (emb := postD) 24 4 (payJ id a b n).po rfl rfl rfl rfl rfl rfl rfl (Zaa.go (Za0 zl91 pl91 rfl rfl rfl) (Zal.go (ZaA rfl rfl rfl rfl rfl rfl rfl sz91) (Zae (Zas ?_))))))));exact ⟨_, [], [], Zao rfl, rfl, rfl, rfl, rfl⟩
theorem pay30_p (id n : Int) (a b : List UInt8) (h0 : 0 ≤ n) (h1 : n ≤ 1000000000000000) : PCalls Tryz.prog 38 [.d (intD id), .d (strD a), .d (strD b), .d (intD n)] (itmD (payJ id a b n)) :=
  (pay0_p id n a b h0 h1).weak fun w O v h => h.aggMono rfl (by simp [D.one]) fun i c c' hc hc' v hv => by
    match i, hc, hc' with
    | 0, hc, hc' => injection hc with hc; injection hc' with hc'; subst hc hc'; exact hv
    | 1, hc, hc' => injection hc with hc; injection hc' with hc'; subst hc hc'; exact hv
    | 2, hc, hc' => injection hc with hc; injection hc' with hc'; subst hc hc'; exact hv
    | 3, hc, hc' => injection hc with hc; injection hc' with hc'; subst hc hc'; exact hv
    | 4, hc, hc' => injection hc with hc; injection hc' with hc'; subst hc hc'; exact hv.anyNil
    | 5, hc, hc' => injection hc with hc; injection hc' with hc'; subst hc hc'; exact hv.anyNil
end Go.Proofs.YtneihdahboilnaaGreat
