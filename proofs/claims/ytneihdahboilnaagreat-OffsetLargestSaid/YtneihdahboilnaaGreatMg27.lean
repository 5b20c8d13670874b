/- Layer 30: the reference: what a room lacks, what blocks an item. -/
import Derived.Test.YtneihdahboilnaaGreatMg26
namespace Go.Proofs.YtneihdahboilnaaGreat
open Go.RowKit

def overL (its : List Itm) (x : Roo) (l : List Int) : Int := max x.n 0 + ((its.filter fun i => decide (i.id ∈ l)).map fun i => dltE i x.r).sum
theorem overL_snoc {its : List Itm} {k : Nat} (hk : k < its.length) (x : Roo) (l : List Int) : overL (its.take (k + 1)) x l = overL (its.take k) x l + if its[k].id ∈ l then dltE its[k] x.r else 0 := by
  unfold overL;rw [ZbW hk]
  by_cases h : its[k].id ∈ l
  · rw [if_pos (by simpa using h), if_pos h, List.map_append, List.sum_append]; simp; omega
  · rw [if_neg (by simpa using h), if_neg h, List.append_nil]; omega
theorem dltE_bnd (i : Itm) (r : Rsc) : -1000000000000000 ≤ dltE i r ∧ dltE i r ≤ 1000000000000000 := by
  unfold dltE
  split
  · rename_i h
    have := bnd_sum h.1 r
    simpa [Mx] using this
  · omega
theorem overL_bnd (its : List Itm) (x : Roo) (l : List Int) : max x.n 0 - its.length * 1000000000000000 ≤ overL its x l ∧ overL its x l ≤ max x.n 0 + its.length * 1000000000000000 := by
  unfold overL
  induction its with
  | nil => simp
  | cons i its ih =>
    have h1 := dltE_bnd i x.r;rw [List.filter_cons];simp only [List.length_cons]
    split
    · simp only [List.map_cons, List.sum_cons]; omega
    · omega
set_option maxRecDepth 100000 in
theorem over_n (p : Prb) (x : Roo) (l : List Int) (hp : p.it.length ≤ 30) (hx : -100000000000000000 ≤ x.n ∧ x.n ≤ 100000000000000000) (hl : l.length ≤ 1000) (hi : ∀ i ∈ p.it, FewI i) : PCalls Tryz.prog 34 [.d (prbD p), .d (rooD x), .d (.sl none (l.map intD))] (intD (max 0 (-(overL p.it x l)))) := by
  have hmx : (if 0 > x.n then 0 else x.n) = max x.n 0 := by rw [Int.max_def]; split <;> split <;> omega
  refine Zaz Tryz.func34 rfl rfl Tryz.ntmps34 rfl rfl rfl fun F hF => (Zaf (Zab (Zal.go (ZaO 1 rfl rfl rfl rfl rfl rfl rfl) (Zal.go (ZaO 2 rfl rfl rfl rfl rfl rfl rfl) (Zaa.go (Zad rfl rfl) (Zae ?_))))));refine Zaf (Zab (Zaa.go (Zai rfl fi67_1 rfl rfl rfl) (Zaa.go (Zaj rfl rfl rfl on2 rfl) (Zaa.go (st_max rfl rfl (rfl) rfl) (Zaa.go (Zad rfl rfl) (Zae (Zaf (Zaf ?_))))))));have h00 : max x.n 0 = overL (p.it.take 0) x l := by unfold overL; simp
  rw [hmx, h00];refine Zab (Zaa.go (Zad rfl rfl) (Zae (Zar (ZaH (α := Nat) (fun k => ⟨40, [(2, .d (.sl none (l.map intD))), (3, (.ptr 1 0 0)), (4, (.ptr 2 0 0)), (7, (.d (intD (overL (p.it.take k) x l)))), (8, (.d (intD (k : Int))))], [(1, [.blk 25 [.d (.sl none (p.ro.map rooD)), .d (.sl none (p.it.map itmD))]]), (2, [.blk 67 [.d (intD x.r.k), .d (strD x.r.acc.o), .d (intD x.r.acc.k), .d (strD x.r.acc.a), .d (strD x.r.f), .d (strD x.r.t), .d (intD x.n)]])]⟩) (fun k => k ≤ p.it.length) (fun k => p.it.length - k) (0) (Nat.zero_le _) (Zat hF [1, 2] rfl rfl ⟨rfl, rfl, rfl, rfl, rfl, trivial⟩) ?_))));rintro k hk0;refine Zaf ?_;refine Zaf (Zab (Zaa.go (Zac rfl rfl) (Zaa.go (Zai rfl Zbd rfl rfl rfl) (Zaa.go (Zaj rfl rfl rfl on23 rfl) (Zaa.go (Zax rfl Tryz.underlying23 rfl) (Zaa.go (ZaG rfl rfl rfl) (Zae (ZaE rfl (fun h16 => ?_) (fun h16 => ?_)))))))))
  · have hk1 : k < p.it.length := ZaJ h16;refine Zaq (Zaf (Zar (Zaf ?_)));have hfi := hi _ (List.getElem_mem hk1);have hsn := overL_snoc hk1 x l;have hob := overL_bnd (p.it.take k) x l;rw [List.length_take] at hob;have hdb := dltE_bnd p.it[k] x.r;refine Zab (Zaa.go (Zac rfl rfl) ?_);refine Zaa.go (Zai rfl Zbd rfl rfl rfl) (Zaa.go (Zaj rfl rfl rfl on23 rfl) (Zaa.go (Zac rfl rfl) (Zaa.go (Zav (k) rfl rfl (rfl) (getm hk1) Tryz.underlying23 rfl sz64 rfl) (Zaa.go (Za3 rfl fi64_0 rfl rfl rfl) (Zaa.go (ZaF rfl rfl on3 rfl) (Zaa.go (Zan (has30_p l p.it[k].id (by omega)) rfl rfl) (Zae (ZaE rfl (fun h26 => ?_) (fun h26 => ?_)))))))))
    · refine ZaV [[], [], [1], [], [1, 2, 3], [1, 2, 3, 4], [], [6], [1, 2, 3, 4, 5, 6, 7], [0, 1, 2, 3, 4, 5, 6, 7, 8], [0, 1, 2, 3, 4, 5, 6, 7, 8, 9]] mixed rfl (dws (Zah [7] [] rfl rfl (fun _ => Zag (Zac rfl rfl)) (Zah [3] [] rfl rfl (fun _ => Zag (Zai rfl Zbd rfl rfl rfl)) (Zah [28] [1] rfl rfl (fun _ => Zag (Zaj rfl rfl rfl on23 rfl)) (Zah [8] [] rfl rfl (fun _ => Zag (Zac rfl rfl)) ?_)))));refine Zah [29, 30] [] rfl rfl (fun _ => Zag (Zav (k) rfl rfl (rfl) (getm hk1) Tryz.underlying23 rfl sz64 rfl)) (Zah [31] [] rfl rfl (fun _ => Zag (ZaP rfl rfl rw64 rfl)) (Zah [4] [] rfl rfl (fun _ => Zag (Zai rfl fi67_0 rfl rfl rfl)) (Zah [33] [2] rfl rfl (fun _ => Zag (Zap rfl rfl rw56 rfl rfl rfl)) (Zah [32, 34] [] rfl rfl (fun _ => Zag (Zan (refdelta_p p.it[k] x.r (by have h := hfi.1; omega) (by have h := hfi.2.1; omega) (by have h := hfi.2.2; omega)) rfl rfl)) (dwc 9 rfl rfl rfl (dw1 10 rfl rfl (Zaa.go (Zay rfl rfl (IntWalk.i64_in _ (by omega)) rfl) (Zae ⟨rfl, ?_⟩))))))));refine dw1 11 rfl rfl (Zaa.go (Zad rfl rfl) (Zae ⟨rfl, ?_⟩));refine dwe ?_
      first | rw [if_pos (by simpa using h26)] at hsn | rw [if_neg (by simpa using h26), Int.add_zero] at hsn
      rw [← hsn];refine Zab (Zaa.go (Zac rfl rfl) (Zaa.go (Zay rfl rfl (wrapS (k + 1) (by omega)) rfl) (Zaa.go (Zad rfl rfl) (Zae ?_))));exact ⟨k + 1, (by show k + 1 ≤ _; omega), by show p.it.length - (k + 1) < p.it.length - k; omega, Zat hF [1, 2] rfl (rfl) ⟨rfl, rfl, rfl, rfl, rfl, trivial⟩⟩
    · refine Zaq ?_
      first | rw [if_pos (by simpa using h26)] at hsn | rw [if_neg (by simpa using h26), Int.add_zero] at hsn
      rw [← hsn];refine Zab (Zaa.go (Zac rfl rfl) (Zaa.go (Zay rfl rfl (wrapS (k + 1) (by omega)) rfl) (Zaa.go (Zad rfl rfl) (Zae ?_))));exact ⟨k + 1, (by show k + 1 ≤ _; omega), by show p.it.length - (k + 1) < p.it.length - k; omega, Zat hF [1, 2] rfl (rfl) ⟨rfl, rfl, rfl, rfl, rfl, trivial⟩⟩
  · refine ZaI (Zaf ?_);have hob := overL_bnd p.it x l;rw [List.take_of_length_le (by have h := h16; omega)];refine Zab (Zaa.go (Zac rfl rfl) (Zaa.go (st_neg rfl (IntWalk.i64_in _ (by omega)) rfl) (Zaa.go (st_max rfl rfl (rfl) rfl) (Zaa.go (Zad rfl rfl) (Zae (Zas ?_))))));exact ⟨_, [], [], Zao rfl, rfl, rfl, by rw [show (max 0 (-(overL p.it x l)) : Int) = if 0 - overL p.it x l > 0 then 0 - overL p.it x l else 0 by rw [Int.max_def]; split <;> split <;> omega], rfl⟩
abbrev excRD (o : Option Exc) : D := .tup [excD (o.getD exc0), boolD o.isSome]
abbrev excX (e : Exc) : AObj := .blk 58 [.d (intD e.id), .d (intD e.re), .d (intD e.r.k), .d (strD e.r.acc.o), .d (intD e.r.acc.k), .d (strD e.r.acc.a), .d (strD e.r.f), .d (strD e.r.t), .d (intD e.by_)]
def blkR (its : List Itm) (l : List Int) (id : Int) (x : Roo) : Option Exc := if id ∈ qIds its x.r then (((qIds its x.r).takeWhile fun a => decide (a ≠ id)).find? fun a => decide (a ∉ l)).map fun a => ⟨id, 1, x.r, a⟩ else none
def blockR (p : Prb) (l : List Int) (id : Int) : Option Exc := match (rosS p).findSome? (blkR (sortO p.it) l id) with
  | some e => some e
  | none => ((itmOf p id).af.find? fun a => decide (a ∉ l)).map fun a => ⟨id, 2, rscZ, a⟩
theorem tw_take {α : Type} {p : α → Bool} : ∀ {l : List α} {m : Nat} (hm : m < l.length), (∀ a ∈ l.take m, p a = true) → p l[m] = false → l.takeWhile p = l.take m
  | a :: l, 0, _, _, h => by simp at h; simp [h]
  | a :: l, m + 1, hm, h0, h => by
    have h1 : p a = true := h0 a (by simp);have ih := tw_take (l := l) (m := m) (by simpa using hm) (fun x hx => h0 x (by simp [hx])) (by simpa using h);rw [List.takeWhile_cons, h1, List.take_succ_cons, ← ih]; rfl
theorem tw_find {α : Type} {p q : α → Bool} : ∀ {l : List α} {m : Nat} (hm : m < l.length), (∀ a ∈ l.take m, p a = true ∧ q a = false) → p l[m] = true → q l[m] = true → (l.takeWhile p).find? q = some l[m]
  | a :: l, 0, _, _, h1, h2 => by simp at h1 h2; simp [h1, h2]
  | a :: l, m + 1, hm, h0, h1, h2 => by
    have h3 := h0 a (by simp);have ih := tw_find (l := l) (m := m) (by simpa using hm) (fun x hx => h0 x (by simp [hx])) (by simpa using h1) (by simpa using h2);rw [List.takeWhile_cons, h3.1];simp only [if_true, List.find?_cons, h3.2]
    simpa using ih
theorem blk_none {S : List Itm} {l : List Int} {id : Int} {x : Roo} {Q : List Int} (hQ : qIds S x.r = Q) (hidQ : id ∈ Q) {m : Nat} (hm : m < Q.length) (h0 : ∀ a ∈ Q.take m, a ≠ id ∧ a ∈ l) (h1 : Q[m] = id) : blkR S l id x = none := by
  unfold blkR;rw [hQ, if_pos hidQ, tw_take hm (fun a ha => by simpa using (h0 a ha).1) (by simpa using h1), Zco (fun a ha => by simpa using (h0 a ha).2)]; rfl
theorem blk_some {S : List Itm} {l : List Int} {id : Int} {x : Roo} {Q : List Int} (hQ : qIds S x.r = Q) (hidQ : id ∈ Q) {m : Nat} (hm : m < Q.length) (h0 : ∀ a ∈ Q.take m, a ≠ id ∧ a ∈ l) (h1 : Q[m] ≠ id) (h2 : Q[m] ∉ l) : blkR S l id x = some ⟨id, 1, x.r, Q[m]⟩ := by
  unfold blkR;rw [hQ, if_pos hidQ, tw_find hm (fun a ha => ⟨by simpa using (h0 a ha).1, by simpa using (h0 a ha).2⟩) (by simpa using h1) (by simpa using h2)]; rfl
theorem blk_lt {Q : List Int} {id : Int} (hidQ : id ∈ Q) {m : Nat} (hm : m < Q.length) (h0 : ∀ a ∈ Q.take m, a ≠ id) (h1 : Q[m] ≠ id) : m + 1 < Q.length := by
  rcases Nat.lt_or_ge (m + 1) Q.length with h | h
  · exact h
  · exfalso
    have e : Q.take (m + 1) = Q := List.take_of_length_le h;rw [← e, List.take_succ_eq_append_getElem hm] at hidQ;rcases List.mem_append.1 hidQ with h2 | h2
    · exact h0 _ h2 rfl
    · exact h1 (List.mem_singleton.1 h2).symm
set_option maxRecDepth 100000 in
set_option maxHeartbeats 1000000 in
theorem blocked_n (p : Prb) (hf : FewP p) (hE : (p.ro.map Roo.r).Nodup) (l : List Int) (id : Int) (hl : l.length ≤ 1000) (hid : id ∈ p.it.map Itm.id) : PCalls Tryz.prog 42 [.d (prbD p), .d (.sl none (l.map intD)), .d (intD id)] (excRD (blockR p l id)) := by
  have hrm := rooms30_n p hE (by have := hf.r; omega);have hbr : ∀ e, (rosS p).findSome? (blkR (sortO p.it) l id) = some e → blockR p l id = some e := fun e h => by unfold blockR; rw [h]
  have hbn : (rosS p).findSome? (blkR (sortO p.it) l id) = none → blockR p l id = ((itmOf p id).af.find? fun a => decide (a ∉ l)).map fun a => ⟨id, 2, rscZ, a⟩ := fun h => by unfold blockR; rw [h]
  have hrl : (rosS p).length ≤ 100 := by rw [(ZbY p).length_eq]; exact hf.r
  have hil := hf.i;have hqf := fun (r : Rsc) => refqueue_p p r (by omega) (fun i hi => by have h := hf.x i ((Za9 p.it).mem_iff.1 hi); omega);have hql : ∀ r, (qIds (sortO p.it) r).length ≤ 30 := fun r => by unfold qIds; rw [List.length_map]; have := List.length_filter_le (fun i => decide (dltE i r < 0)) (sortO p.it); rw [ZbE] at this; omega
  obtain ⟨hfk, hfi, hfe, _⟩ := ZbO hid;have hfd := find_p p id (by omega);rw [hfi] at hfd;have hai := hf.x (itmOf p id) (by rw [hfe]; exact List.getElem_mem hfk)
  obtain ⟨ros, hros⟩ : ∃ ros, rosS p = ros := ⟨_, rfl⟩
  obtain ⟨S, hS⟩ : ∃ S, sortO p.it = S := ⟨_, rfl⟩
  rw [hros] at hrm hbr hbn hrl;rw [hS] at hbr hbn hqf hql;refine Zaz Tryz.func42 rfl rfl Tryz.ntmps42 rfl rfl rfl fun F hF => (Zaf ?_);refine Zab (Zal.go (ZaO 1 rfl rfl rfl rfl rfl rfl rfl) (Zal.go (ZaR 2 zl58 rfl rfl rfl rfl) (Zaa.go (Zad rfl rfl) (Zae (Zaf (Zab (Zaa.go (Zap rfl rfl rw25 rfl rfl rfl) (Zaa.go (Zan (hrm) rfl rfl) ?_))))))));refine Zaa.go (Zad rfl rfl) (Zae (Zaf (Zaf (Zab (Zaa.go (Zad rfl rfl) (Zae (Zar (ZaH (α := Nat) (fun k => ⟨89, [(1, .d (.sl none (l.map intD))), (2, .d (intD id)), (3, (.ptr 1 0 0)), (6, (.ptr 2 0 0)), (8, (.d (.sl none (ros.map rooD)))), (9, (.d (intD (k : Int))))], [(1, [prbB2 25 p]), (2, [excX exc0])]⟩) (fun k => k ≤ ros.length ∧ ∀ x ∈ ros.take k, blkR S l id x = none) (fun k => ros.length - k) (0) (⟨Nat.zero_le _, by simp⟩) (Zat hF [1, 2] rfl rfl ⟨rfl, rfl, rfl, rfl, rfl, rfl, trivial⟩) ?_))))))));rintro k ⟨hk0, hkb⟩;refine Zaf (Zaf (Zab (Zaa.go (Zac rfl rfl) (Zaa.go (Zac rfl rfl) (Zaa.go (Zax rfl Tryz.underlying22 rfl) (Zaa.go (ZaG rfl rfl rfl) (Zae (ZaE rfl (fun h19 => ?_) (fun h19 => ?_)))))))))
  · have hk1 : k < ros.length := ZaJ h19;refine Zaq (Zaf (Zar (Zaf ?_)))
    obtain ⟨Q, hQ⟩ : ∃ Q, qIds S ros[k].r = Q := ⟨_, rfl⟩
    have hqk := hqf ros[k].r;have hqlk := hql ros[k].r;rw [hQ] at hqk hqlk;refine ZaV [[], [], [], [1, 2], [1, 2, 3], [1, 2, 3, 4], [0, 1, 2, 3, 4, 5], [0, 1, 2, 3, 4, 5, 6]] mixed rfl (dws (Zah [3] [1] rfl rfl (fun _ => Zag (Zap rfl rfl rw25 rfl rfl rfl)) ?_));refine Zah [8] [] rfl rfl (fun _ => Zag (Zac rfl rfl)) (Zah [9] [] rfl rfl (fun _ => Zag (Zac rfl rfl)) (Zah [23, 24] [] rfl rfl (fun _ => Zag (Zav (k) rfl rfl (rfl) (getm hk1) Tryz.underlying22 rfl sz67 rfl)) (Zah [25] [] rfl rfl (fun _ => Zag (Zbb rfl fi67_0 rfl rfl rfl)) (Zah [26] [] rfl rfl (fun _ => Zag (ZaP rfl rfl rw56 rfl)) (dwc 6 rfl rfl rfl (dw1 7 rfl rfl (Zaa.go (Zan (hqk) rfl rfl) (Zae ⟨rfl, ?_⟩))))))));refine dw1 8 rfl rfl (Zaa.go (Zad rfl rfl) (Zae ⟨rfl, ?_⟩));refine dwe ?_;refine Zaf (Zaf (Zab (Zaa.go (Zac rfl rfl) (Zaa.go (Zac rfl rfl) (Zaa.go (Zan (has30_p Q id (by omega)) rfl rfl) (Zaa.go (Zbp rfl rfl) (Zae (ZaE rfl (fun h32 => ?_) (fun h32 => ?_)))))))))
    · refine ZaI (Zab (Zaa.go (Zac rfl rfl) (Zaa.go (Zay rfl rfl (wrapS (k + 1) (by omega)) rfl) (Zaa.go (Zad rfl rfl) (Zae ?_)))));exact ⟨k + 1, ⟨by show k + 1 ≤ _; omega, by rw [List.take_succ_eq_append_getElem hk1]; intro e he; rcases List.mem_append.1 he with he | he; exact hkb e he; rw [List.mem_singleton.1 he]; unfold blkR; rw [hQ, if_neg (by simpa using h32)]⟩, by show ros.length - (k + 1) < ros.length - k; omega, Zat hF [1, 2] rfl (rfl) ⟨rfl, rfl, rfl, rfl, rfl, rfl, trivial⟩⟩
    · refine Zaq (Zaf ?_);have hidQ : id ∈ Q := by simpa using h32
      refine Zab (Zaa.go (Zad rfl rfl) (Zae (Zar (ZaH (α := Nat) (fun m => ⟨89, [(1, .d (.sl none (l.map intD))), (2, .d (intD id)), (3, (.ptr 1 0 0)), (6, (.ptr 2 0 0)), (8, (.d (.sl none (ros.map rooD)))), (9, (.d (intD (k : Int)))), (10, (.d (.sl none (Q.map intD)))), (11, (.d (intD (m : Int))))], [(1, [prbB2 25 p]), (2, [excX exc0])]⟩) (fun m => m < Q.length ∧ ∀ a ∈ Q.take m, a ≠ id ∧ a ∈ l) (fun m => Q.length - m) (0) (⟨List.length_pos_of_mem hidQ, by simp⟩) (Zat hF [1, 2] rfl rfl ⟨rfl, rfl, rfl, rfl, rfl, rfl, rfl, rfl, trivial⟩) ?_))));rintro m ⟨hm1, hma⟩;refine Zaf (Zaf ?_);refine Zab (Zaa.go (Zac rfl rfl) (Zaa.go (Zac rfl rfl) (Zaa.go (Zav (m) rfl rfl (rfl) (getm hm1) Tryz.underlying28 rfl sz3 rfl) (Zaa.go (ZaF rfl rfl on3 rfl) (Zaa.go (Zac rfl rfl) (Zaa.go (ZaX rfl rfl rfl) (Zae (ZaE rfl (fun h38 => ?_) (fun h38 => ?_)))))))))
      · refine Zaq (Zaf (Zar (Zaf (Zab ?_))));refine Zaa.go (Zac rfl rfl) (Zaa.go (Zac rfl rfl) (Zaa.go (Zac rfl rfl) (Zaa.go (Zav (m) rfl rfl (rfl) (getm hm1) Tryz.underlying28 rfl sz3 rfl) (Zaa.go (ZaF rfl rfl on3 rfl) (Zaa.go (Zan (has30_p l Q[m] (by omega)) rfl rfl) (Zaa.go (Zbp rfl rfl) (Zae (ZaE rfl (fun h47 => ?_) (fun h47 => ?_)))))))))
        · refine Zaf (ZaV [[], [], [], [1, 2], [1, 2, 3], [1, 2, 3, 4], [], [], [6, 7], [6, 7, 8], [0, 1, 2, 3, 4, 5, 6, 7, 8, 9], [0, 1, 2, 3, 4, 5, 6, 7, 8, 9, 10], [0, 1, 2, 3, 4, 5, 6, 7, 8, 9, 10, 11]] mixed rfl (dws (Zah [2] [] rfl rfl (fun _ => Zag (Zac rfl rfl)) (Zah [8] [] rfl rfl (fun _ => Zag (Zac rfl rfl)) (Zah [9] [] rfl rfl (fun _ => Zag (Zac rfl rfl)) (Zah [49, 50] [] rfl rfl (fun _ => Zag (Zav (k) rfl rfl (rfl) (getm hk1) Tryz.underlying22 rfl sz67 rfl)) (Zah [51] [] rfl rfl (fun _ => Zag (Zbb rfl fi67_0 rfl rfl rfl)) ?_)))))));refine Zah [52] [] rfl rfl (fun _ => Zag (ZaP rfl rfl rw56 rfl)) (Zah [10] [] rfl rfl (fun _ => Zag (Zac rfl rfl)) (Zah [11] [] rfl rfl (fun _ => Zag (Zac rfl rfl)) (Zah [54, 55] [] rfl rfl (fun _ => Zag (Zav (m) rfl rfl (rfl) (getm hm1) Tryz.underlying28 rfl sz3 rfl)) (Zah [56] [] rfl rfl (fun _ => Zag (ZaF rfl rfl on3 rfl)) (dwc 10 rfl rfl rfl (dw1 11 rfl rfl (Zaa.go (Za0 zl58 pl58 rfl rfl rfl) (Zae ⟨rfl, ?_⟩))))))));refine dw1 12 rfl rfl (Zal.go (ZaA rfl rfl rfl rfl rfl rfl rfl sz58) (Zae ⟨rfl, ?_⟩));refine dw1 13 rfl rfl (Zaa.go (Zad rfl rfl) (Zae ⟨rfl, ?_⟩));refine dwe (Zas ?_);exact ⟨_, [], [], Zao rfl, rfl, rfl, by rw [hbr _ (findSome_at hk1 hkb (blk_some hQ hidQ hm1 hma (by simpa using h38) (by simpa using h47)))]; rfl, rfl⟩
        · refine Zaq (Zab (Zaa.go (Zac rfl rfl) (Zaa.go (Zay rfl rfl (wrapS (m + 1) (by omega)) rfl) (Zaa.go (Zad rfl rfl) (Zae ?_)))));exact ⟨m + 1, ⟨blk_lt hidQ hm1 (fun a ha => (hma a ha).1) (by simpa using h38), by rw [List.take_succ_eq_append_getElem hm1]; intro e he; rcases List.mem_append.1 he with he | he; exact hma e he; rw [List.mem_singleton.1 he]; exact ⟨by simpa using h38, by simpa using h47⟩⟩, by show Q.length - (m + 1) < Q.length - m; omega, Zat hF [1, 2] rfl (rfl) ⟨rfl, rfl, rfl, rfl, rfl, rfl, rfl, rfl, trivial⟩⟩
      · refine ZaI (Zab (Zaa.go (Zac rfl rfl) (Zaa.go (Zay rfl rfl (wrapS (k + 1) (by omega)) rfl) (Zaa.go (Zad rfl rfl) (Zae ?_)))));exact ⟨k + 1, ⟨by show k + 1 ≤ _; omega, by rw [List.take_succ_eq_append_getElem hk1]; intro e he; rcases List.mem_append.1 he with he | he; exact hkb e he; rw [List.mem_singleton.1 he]; exact blk_none hQ hidQ hm1 hma (by simpa using h38)⟩, by show ros.length - (k + 1) < ros.length - k; omega, Zat hF [1, 2] rfl (rfl) ⟨rfl, rfl, rfl, rfl, rfl, rfl, trivial⟩⟩
  · refine ZaI (Zaf ?_);have hrn := hbn (findSome_no (by have e : k = ros.length := (by have h := h19; omega); rw [e, List.take_length] at hkb; exact hkb));have hgm : (p.it.map itmD)[List.idxOf id (p.it.map Itm.id)]? = some (itmD (itmOf p id)) := by rw [getm hfk, hfe]
    obtain ⟨X, hX⟩ : ∃ X, itmOf p id = X := ⟨_, rfl⟩
    rw [hX] at hgm hrn hai;refine ZaV [[], [0], [], [], [2, 3], [0, 1, 2, 3, 4], [0, 1, 2, 3, 4, 5], [], [0, 1, 2, 3, 4, 5, 6, 7]] mixed rfl (dws (Zah [3] [] rfl rfl (fun _ => Zag (Zai rfl Zbd rfl rfl rfl)) (Zah [59] [1] rfl rfl (fun _ => Zag (Zaj rfl rfl rfl on23 rfl)) (Zah [3] [1] rfl rfl (fun _ => Zag (Zap rfl rfl rw25 rfl rfl rfl)) ?_))));refine Zah [2] [] rfl rfl (fun _ => Zag (Zac rfl rfl)) (Zah [61, 62] [] rfl rfl (fun _ => Zag (Zan (hfd) rfl rfl)) (Zah [60, 63] [] rfl rfl (fun _ => Zag (Zav (List.idxOf id (p.it.map Itm.id)) rfl rfl (rfl) (hgm) Tryz.underlying23 rfl sz64 rfl)) (Zah [64] [] rfl rfl (fun _ => Zag (ZaP rfl rfl rw64 rfl)) (Zbi [] [3] [(12, _)] rfl rfl (fun _ => Za7 (ZaR 3 zl64 rfl rfl rfl rfl)) (.inr ⟨12, _, rfl, rfl, rfl, rfl, rfl⟩) rfl rfl rfl rfl rfl (dwc 8 rfl rfl rfl (dw1 9 rfl rfl (Zal.go (ZaA rfl rfl rfl rfl rfl rfl rfl sz64) (Zae ⟨rfl, ?_⟩))))))));refine dwe (Zaf (Zaf (Zab (Zaa.go (Zad rfl rfl) (Zae (Zar (ZaH (α := Nat) (fun j => ⟨89, [(1, .d (.sl none (l.map intD))), (2, .d (intD id)), (6, (.ptr 2 0 0)), (12, (.ptr 3 0 0)), (13, (.d (intD (j : Int))))], [(2, [excX exc0]), (3, [.blk 64 [.d (intD X.id), .d (intD X.pr), .d (intD X.sq), .d (.sl none (X.po.map postD)), .d (.sl none (X.pa.map payD)), .d (.sl none (X.af.map intD))]])]⟩) (fun j => j ≤ X.af.length ∧ ∀ a ∈ X.af.take j, a ∈ l) (fun j => X.af.length - j) (0) (⟨Nat.zero_le _, by simp⟩) (Zat hF [2, 3] rfl rfl ⟨rfl, rfl, rfl, rfl, rfl, trivial⟩) ?_)))))));rintro j ⟨hj0, hja⟩;refine Zaf ?_;refine Zaf (Zab (Zaa.go (Zac rfl rfl) (Zaa.go (Zai rfl ZbX rfl rfl rfl) (Zaa.go (Zaj rfl rfl rfl on28 rfl) (Zaa.go (Zax rfl Tryz.underlying28 rfl) (Zaa.go (ZaG rfl rfl rfl) (Zae (ZaE rfl (fun h70 => ?_) (fun h70 => ?_)))))))))
    · have hj1 : j < X.af.length := ZaJ h70;refine Zaq (Zaf (Zar (Zaf (Zab (Zaa.go (Zac rfl rfl) ?_)))));refine Zaa.go (Zai rfl ZbX rfl rfl rfl) (Zaa.go (Zaj rfl rfl rfl on28 rfl) (Zaa.go (Zac rfl rfl) (Zaa.go (Zav (j) rfl rfl (rfl) (getm hj1) Tryz.underlying28 rfl sz3 rfl) (Zaa.go (ZaF rfl rfl on3 rfl) (Zaa.go (Zan (has30_p l X.af[j] (by omega)) rfl rfl) (Zaa.go (Zbp rfl rfl) (Zae (ZaE rfl (fun h80 => ?_) (fun h80 => ?_)))))))))
      · refine Zaf (Zab (Zaa.go (Zac rfl rfl) (Zaa.go (Zai rfl ZbX rfl rfl rfl) ?_)));refine Zaa.go (Zaj rfl rfl rfl on28 rfl) (Zaa.go (Zac rfl rfl) (Zaa.go (Zav (j) rfl rfl (rfl) (getm hj1) Tryz.underlying28 rfl sz3 rfl) (Zaa.go (ZaF rfl rfl on3 rfl) (Zaa.go (Za0 zl58 pl58 rfl rfl rfl) (Zal.go (ZaA rfl rfl rfl rfl rfl rfl rfl sz58) (Zaa.go (Zad rfl rfl) (Zae (Zas ?_))))))));exact ⟨_, [], [], Zao rfl, rfl, rfl, by rw [hrn, find_at hj1 (fun x hx => by simpa using hja x hx) (by simpa using h80)]; rfl, rfl⟩
      · refine Zaq (Zab (Zaa.go (Zac rfl rfl) (Zaa.go (Zay rfl rfl (wrapS (j + 1) (by omega)) rfl) (Zaa.go (Zad rfl rfl) (Zae ?_)))));exact ⟨j + 1, ⟨by show j + 1 ≤ _; omega, by rw [List.take_succ_eq_append_getElem hj1]; intro e he; rcases List.mem_append.1 he with he | he; exact hja e he; rw [List.mem_singleton.1 he]; simpa using h80⟩, by show X.af.length - (j + 1) < X.af.length - j; omega, Zat hF [2, 3] rfl (rfl) ⟨rfl, rfl, rfl, rfl, rfl, trivial⟩⟩
    · refine ZaI (Zaf (Zab (Zaa.go (Za0 zl58 pl58 rfl rfl rfl) (Zal.go (ZaA rfl rfl rfl rfl rfl rfl rfl sz58) (Zaa.go (Zad rfl rfl) (Zae (Zas ?_)))))));exact ⟨_, [], [], Zao rfl, rfl, rfl, by rw [hrn, Zco (fun x hx => by have e : j = X.af.length := (by have h := h70; omega); rw [e, List.take_length] at hja; simpa using hja x hx)]; rfl, rfl⟩
end Go.Proofs.YtneihdahboilnaaGreat
/- Layer 30: the reference: the next exclusion. -/
namespace Go.Proofs.YtneihdahboilnaaGreat
open Go.RowKit

def overX (its its0 : List Itm) (l : List Int) (x : Roo) : Option Exc := if overL its0 x l < 0 then ((qIds its x.r).reverse.find? fun a => decide (a ∈ l)).map fun a => ⟨a, 0, x.r, -1⟩ else none
def nextR (p : Prb) (l : List Int) : Option Exc := match l.findSome? (blockR p l) with
  | some e => some e
  | none => (rosS p).findSome? (overX (sortO p.it) p.it l)
end Go.Proofs.YtneihdahboilnaaGreat
/- Layer 30: the reference's removal procedure. -/
namespace Go.Proofs.YtneihdahboilnaaGreat
open Go.RowKit

theorem blockR_id {p : Prb} {l : List Int} {id : Int} {e : Exc} (h : blockR p l id = some e) : e.id = id := by
  unfold blockR at h
  split at h
  · rename_i e' h1
    injection h with h; subst h
    obtain ⟨x, _, h2⟩ := List.exists_of_findSome?_eq_some h1;unfold blkR at h2
    split at h2
    · obtain ⟨a, _, rfl⟩ := Option.map_eq_some_iff.1 h2; rfl
    · cases h2
  · obtain ⟨a, _, rfl⟩ := Option.map_eq_some_iff.1 h; rfl
end Go.Proofs.YtneihdahboilnaaGreat
/- Layer 30: the removal procedure and the reference say the same. Plain laws. -/
namespace Go.Proofs.YtneihdahboilnaaGreat
open Go.RowKit

theorem find_congr {α : Type} {p q : α → Bool} : ∀ {l : List α}, (∀ x ∈ l, p x = q x) → l.find? p = l.find? q
  | [], _ => rfl
  | a :: l, h => by
    rw [List.find?_cons, List.find?_cons, h a (List.mem_cons_self ..), find_congr fun x hx => h x (List.mem_cons_of_mem _ hx)]
theorem fs_congr {α β : Type} {f g : α → Option β} : ∀ {l : List α}, (∀ x ∈ l, f x = g x) → l.findSome? f = l.findSome? g
  | [], _ => rfl
  | a :: l, h => by
    rw [List.findSome?_cons, List.findSome?_cons, h a (List.mem_cons_self ..), fs_congr fun x hx => h x (List.mem_cons_of_mem _ hx)]
theorem fs_filter {α β : Type} {f : α → Option β} {p : α → Bool} : ∀ {l : List α}, (∀ x ∈ l, p x = false → f x = none) → (l.filter p).findSome? f = l.findSome? f
  | [], _ => rfl
  | a :: l, h => by
    have ih := fs_filter (f := f) (p := p) (l := l) fun x hx => h x (List.mem_cons_of_mem _ hx);rw [List.filter_cons]
    cases hp : p a with
    | true => rw [if_pos rfl, List.findSome?_cons, List.findSome?_cons, ih]
    | false => rw [if_neg (by simp), ih, List.findSome?_cons, h a (List.mem_cons_self ..) hp]
theorem find_map_fs {α β γ : Type} {g : α → β} {p : β → Bool} {h : β → γ} : ∀ {l : List α}, ((l.map g).find? p).map h = l.findSome? fun x => if p (g x) = true then some (h (g x)) else none
  | [] => rfl
  | a :: l => by
    rw [List.map_cons, List.find?_cons, List.findSome?_cons]
    cases hp : p (g a) with
    | true => rw [if_pos rfl]; rfl
    | false => rw [if_neg (by simp), ← find_map_fs (l := l)]
theorem amt_dlt {x : Itm} (h : checkE x = 0) {r : Rsc} (hr : validE r = 0) : amt (dltS x) r = dltE x r := by
  have h1 : dltS x = dltC (ctr x) := if_pos h;have h2 : dltE x r = ctrSum (ctr x) r := if_pos ⟨h, hr⟩;rw [h1, h2]
  by_cases h0 : ctrSum (ctr x) r = 0
  · rw [h0];refine mget_not fun hm => ?_;obtain ⟨d, hd, e⟩ := List.mem_map.1 hm;obtain ⟨h3, h4⟩ := (dltC_mem _ _).1 hd;have h5 := (sumL_mem (ctr x) d.1 d.2).1 h3;rw [e, h0] at h5;exact h4 h5.2
  · refine ZbU (by rw [← h1]; exact Zb8 x) ((dltC_mem _ _).2 ⟨(sumL_mem _ _ _).2 ⟨?_, rfl⟩, h0⟩)
    by_cases hm : r ∈ (ctr x).map Prod.fst
    · exact hm
    · exact absurd (ctrSum_none hm) h0
theorem rooms_valid30 {l : List Roo} (h : roomsE l = 0) : ∀ x ∈ l, validE x.r = 0 := fun x hx => by
  have h0 := Zbo.1 h;obtain ⟨j, hj, rfl⟩ := List.getElem_of_mem hx;have := h0 j (List.mem_range.2 hj);unfold rErr at this;rw [ZaK roo0 hj] at this
  split at this
  · contradiction
  · rename_i hv
    exact Classical.byContradiction fun h => hv h
theorem items_valid30 {l : List Itm} (h : itemsE l = 0) : ∀ x ∈ l, checkE x = 0 := fun x hx => by
  have h0 := Zbo.1 h;obtain ⟨j, hj, rfl⟩ := List.getElem_of_mem hx;have := h0 j (List.mem_range.2 hj);unfold iErr at this;rw [ZaK itm0 hj] at this
  split at this
  · contradiction
  · rename_i hv
    exact Classical.byContradiction fun h => hv h
theorem q_ids {its : List Itm} (hv : ∀ x ∈ its, checkE x = 0) {r : Rsc} (hr : validE r = 0) : qIds its r = (negQ (its.map dltS) r).map fun i => (its.getD i itm0).id := by
  unfold qIds negQ
  have e : its = (List.range its.length).map fun i => its.getD i itm0 := by
    apply List.ext_getElem (by simp)
    intro i h1 h2;simp only [List.getElem_map, List.getElem_range];rw [ZaK itm0 h1]
  conv => lhs; rw [e]
  rw [List.filter_map, List.map_map, List.length_map]
  congr 1
  refine List.filter_congr fun i hi => ?_;have hi' := List.mem_range.1 hi;show decide (dltE (its.getD i itm0) r < 0) = _;rw [ZaK [] (by simpa using hi'), List.getElem_map, ZaK itm0 hi', amt_dlt (hv _ (List.getElem_mem hi')) hr]
theorem on_mem {its : List Itm} (hn : (its.map Itm.id).Nodup) (on : Nat → Bool) {i : Nat} (hi : i < its.length) : (its.getD i itm0).id ∈ onIds its on its.length ↔ on i = true := by
  unfold onIds;rw [List.mem_map]
  constructor
  · rintro ⟨j, hj, e⟩;obtain ⟨h1, h2⟩ := List.mem_filter.1 hj;have hj' := List.mem_range.1 h1;rw [ZaK itm0 hi, ZaK itm0 hj'] at e
    have : j = i := by
      have h3 : (its.map Itm.id)[j]'(by simpa using hj') = (its.map Itm.id)[i]'(by simpa using hi) := by
        rw [List.getElem_map, List.getElem_map]; exact e
      exact (List.getElem_inj hn).1 h3
    rw [← this]; exact h2
  · intro h;exact ⟨i, List.mem_filter.2 ⟨List.mem_range.2 hi, h⟩, rfl⟩
end Go.Proofs.YtneihdahboilnaaGreat
/- Layer 30: the next exclusion of the network is the reference's. Plain laws. -/
namespace Go.Proofs.YtneihdahboilnaaGreat
open Go.RowKit

theorem psum {l m : List Int} (h : l.Perm m) : l.sum = m.sum := by
  induction h with
  | nil => rfl
  | cons x _ ih => rw [List.sum_cons, List.sum_cons, ih]
  | swap x y l => simp only [List.sum_cons]; omega
  | trans _ _ h1 h2 => rw [h1, h2]
theorem sum_flt {α : Type} {p : α → Bool} {f : α → Int} : ∀ {l : List α}, ((l.filter p).map f).sum = (l.map fun i => if p i = true then f i else 0).sum
  | [] => rfl
  | a :: l => by
    rw [List.filter_cons, List.map_cons, List.sum_cons, ← sum_flt (l := l)]
    cases hp : p a with
    | true => rw [if_pos rfl, if_pos rfl, List.map_cons, List.sum_cons]
    | false => rw [if_neg (by simp), if_neg (by simp), Int.zero_add]
theorem S_getN {ros : List Roo} {its : List Itm} {on : Nat → Bool} {i : Nat} (h : i < its.length) : (netS ros its on).nd.getD i nd0 = ndS (ros.map Roo.r) its on i := by
  show ((List.range its.length).map _).getD i nd0 = _;rw [ZaK nd0 (by simpa using h), List.getElem_map, List.getElem_range]
theorem negQ_lt {ds : List (List (Rsc × Int))} {r : Rsc} {i : Nat} (h : i ∈ negQ ds r) : i < ds.length := List.mem_range.1 (List.mem_filter.1 h).1
theorem its_range (its : List Itm) : its = (List.range its.length).map fun i => its.getD i itm0 := by
  apply List.ext_getElem (by simp)
  intro i h1 h2;simp only [List.getElem_map, List.getElem_range];rw [ZaK itm0 h1]
structure PV (p : Prb) (ros : List Roo) (its : List Itm) : Prop where
  e : prbE p = 0
  f : FewP p
  s : SmO ros its
  hr : rosS p = ros
  hi : sortO p.it = its
  v : ∀ x ∈ its, checkE x = 0
  w : ∀ x ∈ ros, validE x.r = 0
  up : ros.Pairwise fun a b => cmpR a.r b.r < 0
theorem pv_of {p : Prb} (hE : prbE p = 0) (hf : FewP p) : PV p (rosS p) (sortO p.it) := by
  have h1 : ordP p = sortO p.it := if_pos hE;have hs := sml_P hf hE;rw [h1] at hs;refine ⟨hE, hf, hs, rfl, rfl, fun x hx => items_valid30 (Zbn hE).2.1 x ((Za9 p.it).mem_iff.1 hx), fun x hx => rooms_valid30 (Zbn hE).1 x ((ZbY p).mem_iff.1 hx), ?_⟩;have hn := hs.r;rw [List.Nodup, List.pairwise_map] at hn;refine ((rosS_sorted p).and hn).imp fun {a b} ⟨g1, g2⟩ => ?_;have h1 := ZbH.anti a.r b.r;have h2 : cmpR a.r b.r ≠ 0 := fun e => g2 (cmpR_zero.1 e);omega
theorem over_sum {p : Prb} {ros : List Roo} {its : List Itm} (h : PV p ros its) (on : Nat → Bool) {x : Roo} (hx : x ∈ ros) : overL p.it x (onIds its on its.length) = max x.n 0 + sumS (its.map dltS) on x.r := by
  unfold overL
  congr 1
  have hp : p.it.Perm its := by rw [← h.hi]; exact (Za9 p.it).symm
  rw [psum ((hp.filter _).map _)]
  obtain ⟨l, hl⟩ : ∃ l, onIds its on its.length = l := ⟨_, rfl⟩
  rw [hl]
  have e : ((its.filter fun i => decide (i.id ∈ l)).map fun i => dltE i x.r).sum = ((List.range its.length).map fun i => if decide ((its.getD i itm0).id ∈ l) = true then dltE (its.getD i itm0) x.r else 0).sum := by
    conv => lhs; rw [its_range its]
    rw [List.filter_map, List.map_map, sum_flt]; rfl
  have hlen : (its.map dltS).length = its.length := by simp
  rw [e];unfold sumS;rw [hlen]
  congr 1
  refine List.map_congr_left fun i hi => ?_;have hi' := List.mem_range.1 hi;have hon := on_mem h.s.i on hi';rw [hl] at hon;have hv := amt_dlt (h.v (its.getD i itm0) (by rw [ZaK itm0 hi']; exact List.getElem_mem hi')) (h.w x hx);have hg : (its.map dltS).getD i [] = dltS (its.getD i itm0) := by rw [ZaK [] (by simpa using hi'), ZaK itm0 hi', List.getElem_map]
  rw [hg, hv]
  by_cases ho : on i = true
  · rw [if_pos ho, if_pos (decide_eq_true (hon.2 ho))]
  · rw [if_neg ho, if_neg (by simpa using fun h => ho (hon.1 h))]
theorem over_eq {p : Prb} {ros : List Roo} {its : List Itm} (h : PV p ros its) (on : Nat → Bool) {x : Roo} (hx : x ∈ ros) : overX its p.it (onIds its on its.length) x = poX (netS ros its on) (poS (its.map dltS) on x) := by
  unfold overX poX;rw [over_sum h on hx]
  have hov : (ovP (poS (its.map dltS) on x) (poS (its.map dltS) on x).sum = true) ↔ max x.n 0 + sumS (its.map dltS) on x.r < 0 := by
    unfold ovP aftP poS;rw [decide_eq_true_eq];dsimp only;have : (0 : Int) ≤ max x.n 0 := Int.le_max_right _ _;omega
  by_cases hc : max x.n 0 + sumS (its.map dltS) on x.r < 0
  · rw [if_pos hc, if_pos (hov.2 hc), q_ids h.v (h.w x hx), ← List.map_reverse, List.find?_map];show Option.map _ (Option.map _ _) = Option.map _ ((negQ (its.map dltS) x.r).reverse.find? _)
    have e : (negQ (its.map dltS) x.r).reverse.find? ((fun a => decide (a ∈ onIds its on its.length)) ∘ fun i => (its.getD i itm0).id) = (negQ (its.map dltS) x.r).reverse.find? (onN (netS ros its on)) := find_congr fun i hi => by
      have hl := negQ_lt (List.mem_reverse.1 hi);rw [List.length_map] at hl;show decide ((its.getD i itm0).id ∈ _) = onN _ i;unfold onN;rw [S_getN hl];show _ = on i;have := on_mem h.s.i on hl
      cases ho : on i with
      | true => exact decide_eq_true (this.2 ho)
      | false => exact decide_eq_false fun h => by rw [this.1 h] at ho; cases ho
    rw [e]
    cases hf : (negQ (its.map dltS) x.r).reverse.find? (onN (netS ros its on)) with
    | none => rfl
    | some i =>
      have hl := negQ_lt (List.mem_reverse.1 (List.mem_of_find?_eq_some hf));rw [List.length_map] at hl;show some _ = some _
      congr 1
      have hg : (netS ros its on).nd.getD i nd0 = ndS (ros.map Roo.r) its on i := S_getN hl;show Exc.mk (its.getD i itm0).id 0 x.r (-1) = Exc.mk ((netS ros its on).nd.getD i nd0).it.id 0 x.r (-1);rw [hg]; rfl
  · rw [if_neg hc, if_neg fun h => hc (hov.1 h)]
end Go.Proofs.YtneihdahboilnaaGreat
/- Layer 30: what blocks an item, in two words. Plain laws. -/
namespace Go.Proofs.YtneihdahboilnaaGreat
open Go.RowKit

theorem find_idx {α : Type} (p : α → Bool) : ∀ (A : List α), A.find? p = A[A.findIdx p]?
  | [] => rfl
  | a :: A => by
    rw [List.find?_cons, List.findIdx_cons]
    cases hp : p a with
    | true => rfl
    | false => rw [find_idx p A]; rfl
theorem dlt_ris (X : Itm) : (dltS X).Pairwise fun a b => cmpR a.1 b.1 < 0 := by
  unfold dltS
  split
  · exact dltC_ris (ctr X)
  · exact List.Pairwise.nil
theorem pl_eq {p : Prb} {ros : List Roo} {its : List Itm} (h : PV p ros its) (ds : List (List (Rsc × Int))) (X : Itm) : plK (ros.map Roo.r) ds (dltS X) = (ros.filter fun x => decide (amt (dltS X) x.r < 0)).map fun x => ((ros.map Roo.r).idxOf x.r, (negQ ds x.r).length) := by
  have key : ((dltS X).filter fun d => decide (d.1 ∈ ros.map Roo.r) && decide (d.2 < 0)).map Prod.fst = (ros.filter fun x => decide (amt (dltS X) x.r < 0)).map Roo.r := by
    refine strict_one (R := fun a b => cmpR a b < 0) (fun x => by rw [ZbH.refl]; omega) (fun x y z => ZbH.trans x y z) ?_ ?_ fun r => ?_
    · rw [List.pairwise_map]; exact List.Pairwise.filter _ (dlt_ris X)
    · rw [List.pairwise_map]; exact List.Pairwise.filter _ h.up
    · constructor
      · intro hr;obtain ⟨d, hd, rfl⟩ := List.mem_map.1 hr;obtain ⟨h1, h2⟩ := List.mem_filter.1 hd;rw [Bool.and_eq_true, decide_eq_true_eq, decide_eq_true_eq] at h2;obtain ⟨x, hx, e⟩ := List.mem_map.1 h2.1;refine List.mem_map.2 ⟨x, List.mem_filter.2 ⟨hx, ?_⟩, e⟩;have : amt (dltS X) d.1 = d.2 := ZbU (Zb8 X) h1;rw [e, this]; exact decide_eq_true h2.2
      · intro hr;obtain ⟨x, hx, rfl⟩ := List.mem_map.1 hr;obtain ⟨h1, h2⟩ := List.mem_filter.1 hx;have h2 := of_decide_eq_true h2
        have hk : x.r ∈ (dltS X).map Prod.fst := Classical.byContradiction fun hn => by
          have : amt (dltS X) x.r = 0 := mget_not hn;omega
        obtain ⟨d, hd, e⟩ := List.mem_map.1 hk;have : amt (dltS X) d.1 = d.2 := ZbU (Zb8 X) hd;rw [e] at this;refine List.mem_map.2 ⟨d, List.mem_filter.2 ⟨hd, ?_⟩, e⟩;rw [Bool.and_eq_true, decide_eq_true_eq, decide_eq_true_eq];exact ⟨by rw [e]; exact List.mem_map.2 ⟨x, h1, rfl⟩, by omega⟩
  have e1 : plK (ros.map Roo.r) ds (dltS X) = (((dltS X).filter fun d => decide (d.1 ∈ ros.map Roo.r) && decide (d.2 < 0)).map Prod.fst).map fun r => ((ros.map Roo.r).idxOf r, (negQ ds r).length) := by
    unfold plK; rw [List.map_map]; rfl
  rw [e1, key, List.map_map]; rfl
theorem po_at {p : Prb} {ros : List Roo} {its : List Itm} (h : PV p ros its) (on : Nat → Bool) {x : Roo} (hx : x ∈ ros) : (netS ros its on).po.getD ((ros.map Roo.r).idxOf x.r) po0 = poS (its.map dltS) on x := by
  obtain ⟨j, hj, rfl⟩ := List.getElem_of_mem hx;have hj' : j < (ros.map Roo.r).length := by simpa using hj
  have e : (ros.map Roo.r).idxOf ros[j].r = j := by
    have := idx_nodup h.s.r hj';rw [List.getElem_map] at this; exact this
  rw [e];show (ros.map _).getD j po0 = _;rw [ZaK po0 (by simpa using hj), List.getElem_map]
theorem id_inj {its : List Itm} (hn : (its.map Itm.id).Nodup) {i j : Nat} (hi : i < its.length) (hj : j < its.length) (h : (its.getD i itm0).id = (its.getD j itm0).id) : i = j := by
  rw [ZaK itm0 hi, ZaK itm0 hj] at h
  have h3 : (its.map Itm.id)[i]'(by simpa using hi) = (its.map Itm.id)[j]'(by simpa using hj) := by
    rw [List.getElem_map, List.getElem_map]; exact h
  exact (List.getElem_inj hn).1 h3
theorem blkR_eq {p : Prb} {ros : List Roo} {its : List Itm} (h : PV p ros its) (on : Nat → Bool) {i : Nat} (hi : i < its.length) {x : Roo} (hx : x ∈ ros) :
    blkR its (onIds its on its.length) (its.getD i itm0).id x = if amt (dltS (its.getD i itm0)) x.r < 0 then (if badP (netS ros its on) ((ros.map Roo.r).idxOf x.r, (negQ ((its.map dltS).take i) x.r).length) = true then some (excQ (netS ros its on) (ndS (ros.map Roo.r) its on i) ((ros.map Roo.r).idxOf x.r, (negQ ((its.map dltS).take i) x.r).length)) else none) else none := by
  have hdi : i < (its.map dltS).length := by simpa using hi
  have hg : (its.map dltS).getD i [] = dltS (its.getD i itm0) := by rw [ZaK [] hdi, ZaK itm0 hi, List.getElem_map]
  have hq := q_ids h.v (h.w x hx);obtain ⟨B, c1, c2, c3⟩ := negQ_cut hdi x.r;rw [hg] at c1
  have hin : (its.getD i itm0).id ∈ qIds its x.r ↔ amt (dltS (its.getD i itm0)) x.r < 0 := by
    rw [hq, List.mem_map]
    constructor
    · rintro ⟨j, hj, e⟩;have hjl := negQ_lt hj;rw [List.length_map] at hjl;have := id_inj h.s.i hjl hi e;subst this;have := (List.mem_filter.1 hj).2;rw [hg] at this; exact of_decide_eq_true this
    · intro ha;refine ⟨i, ?_, rfl⟩;rw [c1, if_pos ha]; simp
  unfold blkR
  by_cases ha : amt (dltS (its.getD i itm0)) x.r < 0
  · rw [if_pos (hin.2 ha), if_pos ha];rw [if_pos ha] at c1
    obtain ⟨A, hA⟩ : ∃ A, negQ ((its.map dltS).take i) x.r = A := ⟨_, rfl⟩
    rw [hA] at c1 c2 ⊢
    have hQ : qIds its x.r = A.map (fun j => (its.getD j itm0).id) ++ ((its.getD i itm0).id :: B.map fun j => (its.getD j itm0).id) := by
      rw [hq, c1, List.map_append, List.singleton_append, List.map_cons]
    have hAl : (A.map fun j => (its.getD j itm0).id).length = A.length := List.length_map _;have hlt : A.length < (qIds its x.r).length := by rw [hQ, List.length_append, hAl]; simp
    have htk : (qIds its x.r).take A.length = A.map fun j => (its.getD j itm0).id := by rw [hQ, ← hAl, List.take_left']; rfl
    have hat : (qIds its x.r)[A.length] = (its.getD i itm0).id := by
      have : (qIds its x.r)[A.length]? = some (its.getD i itm0).id := by
        rw [hQ, List.getElem?_append_right (by omega), hAl, Nat.sub_self]; rfl
      rw [List.getElem?_eq_getElem hlt] at this; exact Option.some.inj this
    rw [tw_take hlt (fun a ha => by
      rw [htk] at ha;obtain ⟨j, hj, rfl⟩ := List.mem_map.1 ha;have := c2 j hj
      exact decide_eq_true fun e => by have := id_inj h.s.i (by omega) hi e; omega) (by rw [hat]; simp), htk, List.find?_map]
    have e1 : A.find? ((fun a => decide (a ∉ onIds its on its.length)) ∘ fun j => (its.getD j itm0).id) = A.find? fun j => !on j := find_congr fun j hj => by
      have hjl : j < its.length := by have := c2 j hj; omega
      have := on_mem h.s.i on hjl;show decide ((its.getD j itm0).id ∉ _) = !on j
      cases ho : on j with
      | true => exact decide_eq_false fun hn => hn (this.2 ho)
      | false => exact decide_eq_true fun hn => by rw [this.1 hn] at ho; cases ho
    rw [e1, find_idx]
    have hmi : ((netS ros its on).po.getD ((ros.map Roo.r).idxOf x.r) po0).mi = if A.findIdx (fun j => !on j) < A.length then A.findIdx fun j => !on j else (([i] : List Nat) ++ B).findIdx (fun j => !on j) + A.length := by
      rw [po_at h on hx];show miS on (negQ (its.map dltS) x.r) = _;unfold miS;rw [c1, fidx_app]
    have hpq : ((netS ros its on).po.getD ((ros.map Roo.r).idxOf x.r) po0).q = negQ (its.map dltS) x.r := by rw [po_at h on hx]; rfl
    have hpr : ((netS ros its on).po.getD ((ros.map Roo.r).idxOf x.r) po0).r = x.r := by rw [po_at h on hx]; rfl
    unfold badP excQ;dsimp only;rw [hmi, hpq, hpr]
    by_cases hm : A.findIdx (fun j => !on j) < A.length
    · rw [if_pos hm, if_pos (decide_eq_true hm), List.getElem?_eq_getElem hm];have hjm := List.getElem_mem hm;have hjl : A[A.findIdx fun j => !on j] < its.length := by have := c2 _ hjm; omega
      have e2 : (negQ (its.map dltS) x.r).getD (A.findIdx fun j => !on j) 0 = A[A.findIdx fun j => !on j] := by
        rw [c1, List.getD_eq_getElem?_getD, List.getElem?_append_left hm, List.getElem?_eq_getElem hm]; rfl
      rw [e2, S_getN hjl]; rfl
    · rw [if_neg hm, if_neg (by simp), List.getElem?_eq_none (by omega)]; rfl
  · rw [if_neg (fun hh => ha (hin.1 hh)), if_neg ha]
end Go.Proofs.YtneihdahboilnaaGreat
/- Layer 30: the removal procedure is the reference's. Plain laws. -/
namespace Go.Proofs.YtneihdahboilnaaGreat
open Go.RowKit

theorem block_eq {p : Prb} {ros : List Roo} {its : List Itm} (h : PV p ros its) (on : Nat → Bool) {i : Nat} (hi : i < its.length) : blockR p (onIds its on its.length) (its.getD i itm0).id = inadm (netS ros its on) (ndS (ros.map Roo.r) its on i) := by
  have hXm : its.getD i itm0 ∈ its := by rw [ZaK itm0 hi]; exact List.getElem_mem hi
  have hXp : its.getD i itm0 ∈ p.it := by rw [← h.hi] at hXm; rw [← h.hi]; exact (Za9 p.it).mem_iff.1 hXm
  have e1 : ros.findSome? (blkR its (onIds its on its.length) (its.getD i itm0).id) = ((plK (ros.map Roo.r) ((its.map dltS).take i) (dltS (its.getD i itm0))).find? (badP (netS ros its on))).map (excQ (netS ros its on) (ndS (ros.map Roo.r) its on i)) := by
    rw [pl_eq h, find_map_fs, ← fs_filter (p := fun x => decide (amt (dltS (its.getD i itm0)) x.r < 0)) (fun x hx hp => by rw [blkR_eq h on hi hx, if_neg (of_decide_eq_false hp)])];refine fs_congr fun x hx => ?_;obtain ⟨h1, h2⟩ := List.mem_filter.1 hx;rw [blkR_eq h on hi h1, if_pos (of_decide_eq_true h2)]
  have e2 : itmOf p (its.getD i itm0).id = its.getD i itm0 := by
    obtain ⟨hk, _, h2, h3⟩ := ZbO (p := p) (id := (its.getD i itm0).id) (List.mem_map.2 ⟨_, hXp, rfl⟩);refine ids_inj (Zcm (Zbn h.e).2.1) (by rw [h2]; exact List.getElem_mem hk) hXp h3
  have e3 : (its.getD i itm0).af.find? (fun a => decide (a ∉ onIds its on its.length)) = (its.getD i itm0).af.find? (offOf (netS ros its on)) := find_congr fun a ha => by
    have hm := h.s.a _ hXm a ha;have hj := List.idxOf_lt_length_of_mem hm;have hja := List.getElem_idxOf hj;unfold offOf;rw [S_ids]
    generalize (its.map Itm.id).idxOf a = j at hj hja ⊢
    have hj' : j < its.length := by simpa using hj
    rw [List.getElem_map] at hja;rw [S_getN hj'];show _ = !on j;have := on_mem h.s.i on hj';rw [ZaK itm0 hj', hja] at this
    cases ho : on j with
    | true => exact decide_eq_false fun hn => hn (this.2 ho)
    | false => exact decide_eq_true fun hn => by rw [this.1 hn] at ho; cases ho
  unfold blockR;rw [h.hr, h.hi, e1, e2, e3];unfold inadm
  show _ = match (plK (ros.map Roo.r) ((its.map dltS).take i) (dltS (its.getD i itm0))).find? (badP (netS ros its on)) with
    | some e => some (excQ (netS ros its on) (ndS (ros.map Roo.r) its on i) e)
    | none => match (its.getD i itm0).af.find? (offOf (netS ros its on)) with
      | some id => some ⟨(its.getD i itm0).id, 2, rscZ, id⟩
      | none => none
  cases (plK (ros.map Roo.r) ((its.map dltS).take i) (dltS (its.getD i itm0))).find? (badP (netS ros its on)) with
  | some e => rfl
  | none =>
    show ((its.getD i itm0).af.find? (offOf (netS ros its on))).map _ = _
    cases (its.getD i itm0).af.find? (offOf (netS ros its on)) <;> rfl
theorem next_eq {p : Prb} {ros : List Roo} {its : List Itm} (h : PV p ros its) (on : Nat → Bool) : nextR p (onIds its on its.length) = nextN (netS ros its on) := by
  have e1 : (onIds its on its.length).findSome? (blockR p (onIds its on its.length)) = (netS ros its on).nd.findSome? (ndX (netS ros its on)) := by
    show (((List.range its.length).filter on).map fun i => (its.getD i itm0).id).findSome? _ = ((List.range its.length).map _).findSome? _;rw [List.findSome?_map, List.findSome?_map]
    rw [← fs_filter (p := on) (l := List.range its.length) (f := ndX (netS ros its on) ∘ ndS (ros.map Roo.r) its on) (fun i _ ho => by
      show ndX _ (ndS _ _ _ i) = none;unfold ndX;rw [if_neg];show ¬ (on i = true)
      rw [ho]; simp)]
    refine fs_congr fun i hi => ?_;obtain ⟨h1, h2⟩ := List.mem_filter.1 hi;show blockR p _ (its.getD i itm0).id = ndX _ (ndS _ _ _ i);rw [block_eq h on (List.mem_range.1 h1)];unfold ndX;rw [if_pos];exact h2
  have e2 : ros.findSome? (overX its p.it (onIds its on its.length)) = (netS ros its on).po.findSome? (poX (netS ros its on)) := by
    show _ = (ros.map _).findSome? _;rw [List.findSome?_map];exact fs_congr fun x hx => over_eq h on hx
  unfold nextR nextN;rw [h.hr, h.hi, e1, e2]
  cases (netS ros its on).nd.findSome? (ndX (netS ros its on)) <;> rfl
theorem without_off {its : List Itm} (hn : (its.map Itm.id).Nodup) (on : Nat → Bool) {i : Nat} (hi : i < its.length) : without (onIds its on its.length) (its.getD i itm0).id = onIds its (setOff on i) its.length := by
  unfold without onIds;rw [List.filter_map, List.filter_filter]
  congr 1
  refine List.filter_congr fun j hj => ?_;have hj' := List.mem_range.1 hj;show (decide ((its.getD j itm0).id ≠ (its.getD i itm0).id) && on j) = setOff on i j
  by_cases e : j = i
  · subst e; rw [setOff_at]; simp
  · have hne : (its.getD j itm0).id ≠ (its.getD i itm0).id := fun h => e (id_inj hn hj' hi h);rw [Zck e, decide_eq_true hne, Bool.true_and]
end Go.Proofs.YtneihdahboilnaaGreat
/- Layer 30: the law's helpers. -/
namespace Go.Proofs.YtneihdahboilnaaGreat
open Go.RowKit

def FewQ (p : Prb) (n : Nat) : Prop := p.it.length ≤ n ∧ p.ro.length ≤ 30 ∧ ∀ i ∈ p.it, i.po.length ≤ 8 ∧ i.pa.length ≤ 8 ∧ i.af.length ≤ 8
instance (p : Prb) (n : Nat) : Decidable (FewQ p n) := inferInstanceAs (Decidable (_ ∧ _ ∧ ∀ i ∈ p.it, _))
theorem few_of {p : Prb} {n : Nat} (h : FewQ p n) (hn : n ≤ 30) : FewP p := ⟨by have := h.1; omega, by have := h.2.1; omega, h.2.2⟩
set_option maxRecDepth 100000 in
theorem few_p (p : Prb) (n : Nat) (hn : n ≤ 1000) : PCalls Tryz.prog 13 [.d (prbD p), .d (intD (n : Int))] (boolD (decide (FewQ p n))) := by
  refine Zaz Tryz.func13 rfl rfl Tryz.ntmps13 rfl rfl rfl fun F hF => (Zaf (Zab (Zal.go (ZaO 1 rfl rfl rfl rfl rfl rfl rfl) (Zaa.go (Zad rfl rfl) (Zae (Zaf ?_))))));refine Zaf (Zab (Zaa.go (Zai rfl Zbd rfl rfl rfl) (Zaa.go (Zaj rfl rfl rfl on23 rfl) (Zaa.go (Zax rfl Tryz.underlying23 rfl) (Zaa.go (Zac rfl rfl) (Zaa.go (Zbq rfl rfl rfl) (Zaa.go (Zac rfl rfl) (ZaT 11 rfl (fun h11 => ?_) (fun h11 => ?_)))))))))
  · refine Zak rfl rfl rfl rfl (Zak rfl rfl rfl rfl (Zak rfl rfl rfl rfl ?_));refine Zak rfl rfl rfl rfl (Zaa.go (Zaw rfl rfl rfl rfl) (Zae (ZaQ rfl rfl (Zaf (Zab (Zaa.go (Zad rfl rfl) (Zae (Zas ?_))))))));exact ⟨_, [], [], Zao rfl, rfl, rfl, retF (fun h => by have h1 := h.1; have h2 := h.2.1; omega), rfl⟩
  · refine Zam rfl rfl rfl (Zaa.go (Zai rfl Zbj rfl rfl rfl) ?_);refine Zam rfl rfl rfl (Zaa.go (Zaj rfl rfl rfl on22 rfl) (Zam rfl rfl rfl (Zaa.go (Zax rfl Tryz.underlying22 rfl) (Zam rfl rfl rfl (Zaa.go (Zbq rfl rfl rfl) (Zaa.go (ZaB rfl rfl rfl rfl) (Zae (ZaE rfl (fun h16 => ?_) (fun h16 => ?_)))))))))
    · refine Zaf (Zab (Zaa.go (Zad rfl rfl) (Zae (Zas ?_))));exact ⟨_, [], [], Zao rfl, rfl, rfl, retF (fun h => by have h1 := h.1; have h2 := h.2.1; omega), rfl⟩
    · refine Zaq (Zaf (Zaf (Zab (Zaa.go (Zad rfl rfl) (Zae (Zar (ZaH (α := Nat) (fun k => ⟨52, [(2, (.ptr 1 0 0)), (5, (.d (intD (k : Int))))], [(1, [prbB2 25 p])]⟩) (fun k => k ≤ p.it.length ∧ ∀ i ∈ p.it.take k, i.po.length ≤ 8 ∧ i.pa.length ≤ 8 ∧ i.af.length ≤ 8) (fun k => p.it.length - k) (0) (⟨Nat.zero_le _, by simp⟩) (Zat hF [1] rfl rfl ⟨rfl, rfl, trivial⟩) ?_)))))));rintro k ⟨hk0, hk⟩;refine Zaf ?_;refine Zaf (Zab (Zaa.go (Zac rfl rfl) (Zaa.go (Zai rfl Zbd rfl rfl rfl) (Zaa.go (Zaj rfl rfl rfl on23 rfl) (Zaa.go (Zax rfl Tryz.underlying23 rfl) (Zaa.go (ZaG rfl rfl rfl) (Zae (ZaE rfl (fun h21 => ?_) (fun h21 => ?_)))))))))
      · have hk1 : k < p.it.length := ZaJ h21;refine Zaq (Zaf (Zar (Zaf (Zab (Zaa.go (Zai rfl Zbd rfl rfl rfl) ?_)))));refine Zaa.go (Zaj rfl rfl rfl on23 rfl) (Zaa.go (Zac rfl rfl) (Zaa.go (Zav (k) rfl rfl (rfl) (getm hk1) Tryz.underlying23 rfl sz64 rfl) (Zaa.go (Za3 rfl fi64_3 rfl rfl rfl) (Zaa.go (ZaF rfl rfl on61 rfl) (Zaa.go (Zax rfl Tryz.underlying61 rfl) (Zaa.go (Zbq rfl rfl rfl) (Zaa.go (Zac rfl rfl) (ZaT 32 rfl (fun h32 => ?_) (fun h32 => ?_)))))))))
        · refine Zak rfl rfl rfl rfl (Zak rfl rfl rfl rfl (Zak rfl rfl rfl rfl (Zak rfl rfl rfl rfl (Zak rfl rfl rfl rfl (Zak rfl rfl rfl rfl (Zak rfl rfl rfl rfl (Zak rfl rfl rfl rfl ?_)))))));refine Zaa.go (Zaw rfl rfl rfl rfl) (Zaa.go (Zac rfl rfl) (Zak rfl rfl rfl rfl (Zak rfl rfl rfl rfl (Zak rfl rfl rfl rfl (Zak rfl rfl rfl rfl (Zak rfl rfl rfl rfl (Zak rfl rfl rfl rfl (Zak rfl rfl rfl rfl ?_))))))));refine Zak rfl rfl rfl rfl (Zaa.go (Zaw rfl rfl rfl rfl) (Zae (ZaQ rfl rfl (Zaf (Zab (Zaa.go (Zad rfl rfl) (Zae (Zas ?_))))))));exact ⟨_, [], [], Zao rfl, rfl, rfl, retF (fun h => by have h1 := h.2.2 _ (List.getElem_mem hk1); omega), rfl⟩
        · refine Zam rfl rfl rfl ?_;refine Zaa.go (Zai rfl Zbd rfl rfl rfl) (Zam rfl rfl rfl (Zaa.go (Zaj rfl rfl rfl on23 rfl) (Zam rfl rfl rfl (Zaa.go (Zac rfl rfl) (Zam rfl rfl rfl (Zaa.go (Zav (k) rfl rfl (rfl) (getm hk1) Tryz.underlying23 rfl sz64 rfl) (Zam rfl rfl rfl (Zaa.go (Za3 rfl fi64_4 rfl rfl rfl) ?_))))))));refine Zam rfl rfl rfl (Zaa.go (ZaF rfl rfl on62 rfl) (Zam rfl rfl rfl (Zaa.go (Zax rfl Tryz.underlying62 rfl) (Zam rfl rfl rfl (Zaa.go (Zbq rfl rfl rfl) (Zaa.go (ZaB rfl rfl rfl rfl) (Zaa.go (Zac rfl rfl) (ZaT 42 rfl (fun h42 => ?_) (fun h42 => ?_)))))))))
          · refine Zak rfl rfl rfl rfl (Zak rfl rfl rfl rfl (Zak rfl rfl rfl rfl (Zak rfl rfl rfl rfl (Zak rfl rfl rfl rfl (Zak rfl rfl rfl rfl (Zak rfl rfl rfl rfl ?_))))));refine Zak rfl rfl rfl rfl (Zaa.go (Zaw rfl rfl rfl rfl) (Zae (ZaQ rfl rfl (Zaf (Zab (Zaa.go (Zad rfl rfl) (Zae (Zas ?_))))))));exact ⟨_, [], [], Zao rfl, rfl, rfl, retF (fun h => by have h1 := h.2.2 _ (List.getElem_mem hk1); omega), rfl⟩
          · refine Zam rfl rfl rfl ?_;refine Zaa.go (Zai rfl Zbd rfl rfl rfl) (Zam rfl rfl rfl (Zaa.go (Zaj rfl rfl rfl on23 rfl) (Zam rfl rfl rfl (Zaa.go (Zac rfl rfl) (Zam rfl rfl rfl (Zaa.go (Zav (k) rfl rfl (rfl) (getm hk1) Tryz.underlying23 rfl sz64 rfl) (Zam rfl rfl rfl (Zaa.go (Za3 rfl ZbX rfl rfl rfl) ?_))))))));refine Zam rfl rfl rfl (Zaa.go (ZaF rfl rfl on28 rfl) (Zam rfl rfl rfl (Zaa.go (Zax rfl Tryz.underlying28 rfl) (Zam rfl rfl rfl (Zaa.go (Zbq rfl rfl rfl) (Zaa.go (ZaB rfl rfl rfl rfl) (Zae (ZaE rfl (fun h51 => ?_) (fun h51 => ?_)))))))))
            · refine Zaf (Zab (Zaa.go (Zad rfl rfl) (Zae (Zas ?_))));exact ⟨_, [], [], Zao rfl, rfl, rfl, retF (fun h => by have h1 := h.2.2 _ (List.getElem_mem hk1); omega), rfl⟩
            · refine Zaq (Zab (Zaa.go (Zac rfl rfl) (Zaa.go (Zay rfl rfl (wrapS (k + 1) (by omega)) rfl) (Zaa.go (Zad rfl rfl) (Zae ?_)))));exact ⟨k + 1, ⟨by show k + 1 ≤ _; omega, by rw [List.take_succ_eq_append_getElem hk1]; intro i hi; rcases List.mem_append.1 hi with hi | hi; exact hk i hi; rw [List.mem_singleton.1 hi]; omega⟩, by show p.it.length - (k + 1) < p.it.length - k; omega, Zat hF [1] rfl (rfl) ⟨rfl, rfl, trivial⟩⟩
      · refine ZaI (Zaf (Zab (Zaa.go (Zad rfl rfl) (Zae (Zas ?_)))));exact ⟨_, [], [], Zao rfl, rfl, rfl, retT ⟨by omega, by omega, fun i hi => hk i (by rw [List.take_of_length_le (by have h := h21; omega)]; exact hi)⟩, rfl⟩
set_option maxRecDepth 100000 in
theorem same30_p (l m : List Int) (hl : l.length ≤ 100000) (hm : m.length ≤ 100000) : PCalls Tryz.prog 19 [.d (.sl none (l.map intD)), .d (.sl none (m.map intD))] (boolD (decide (l = m))) := by
  refine Zaz Tryz.func19 rfl rfl Tryz.ntmps19 rfl rfl rfl fun F hF => (Zaf (Zab (Zaa.go (Zad rfl rfl) (Zae (Zaf ?_)))));refine Zaf (Zab (Zaa.go (Zac rfl rfl) (Zaa.go (Zax rfl Tryz.underlying28 rfl) (Zaa.go (Zac rfl rfl) (Zaa.go (Zax rfl Tryz.underlying28 rfl) (Zaa.go (ZaX rfl rfl rfl) (Zae (ZaE rfl (fun h10 => ?_) (fun h10 => ?_)))))))))
  · refine Zaf (Zab (Zaa.go (Zad rfl rfl) (Zae (Zas ?_))));exact ⟨_, [], [], Zao rfl, rfl, rfl, retF (fun h => by have h1 := congrArg List.length h; have h := h10; omega), rfl⟩
  · refine Zaq (Zaf (Zaf ?_));have hlen : l.length = m.length := by have h := h10; omega
    refine Zab (Zaa.go (Zad rfl rfl) (Zae (Zar (ZaH (α := Nat) (fun k => ⟨26, [(0, .d (.sl none (l.map intD))), (1, .d (.sl none (m.map intD))), (5, (.d (intD (k : Int))))], []⟩) (fun k => k ≤ l.length ∧ l.take k = m.take k) (fun k => l.length - k) (0) (⟨Nat.zero_le _, by simp⟩) (Zat hF [] rfl rfl ⟨rfl, rfl, rfl, trivial⟩) ?_))));rintro k ⟨hk0, hk⟩;refine Zaf (Zaf (Zab (Zaa.go (Zac rfl rfl) (Zaa.go (Zac rfl rfl) (Zaa.go (Zax rfl Tryz.underlying28 rfl) (Zaa.go (ZaG rfl rfl rfl) (Zae (ZaE rfl (fun h14 => ?_) (fun h14 => ?_)))))))))
    · have hk1 : k < l.length := ZaJ h14;refine Zaq (Zaf (Zar (Zaf ?_)));have hk2 : k < m.length := by omega
      refine ZaV [[], [], [0, 1], [0, 1, 2], [], [], [4, 5], [4, 5, 6], [0, 1, 2, 3, 4, 5, 6, 7]] mixed rfl (dws (Zah [0] [] rfl rfl (fun _ => Zag (Zac rfl rfl)) (Zah [5] [] rfl rfl (fun _ => Zag (Zac rfl rfl)) (Zah [17, 18] [] rfl rfl (fun _ => Zag (Zav (k) rfl rfl (rfl) (getm hk1) Tryz.underlying28 rfl sz3 rfl)) ?_))));refine Zah [19] [] rfl rfl (fun _ => Zag (ZaF rfl rfl on3 rfl)) (Zah [1] [] rfl rfl (fun _ => Zag (Zac rfl rfl)) (Zah [5] [] rfl rfl (fun _ => Zag (Zac rfl rfl)) (Zah [21, 22] [] rfl rfl (fun _ => Zag (Zav (k) rfl rfl (rfl) (getm hk2) Tryz.underlying28 rfl sz3 rfl)) (Zah [23] [] rfl rfl (fun _ => Zag (ZaF rfl rfl on3 rfl)) (dwc 8 rfl rfl rfl (dw1 9 rfl rfl (Zaa.go (ZaX rfl rfl rfl) (Zae ⟨rfl, ?_⟩))))))));refine dwe (ZaE rfl (fun h25 => ?_) (fun h25 => ?_))
      · refine Zaf (Zab (Zaa.go (Zad rfl rfl) (Zae (Zas ?_))));exact ⟨_, [], [], Zao rfl, rfl, rfl, retF (fun h => by subst h; exact h25 rfl), rfl⟩
      · refine Zaq (Zab (Zaa.go (Zac rfl rfl) (Zaa.go (Zay rfl rfl (wrapS (k + 1) (by omega)) rfl) (Zaa.go (Zad rfl rfl) (Zae ?_)))));exact ⟨k + 1, ⟨by show k + 1 ≤ _; omega, by rw [List.take_succ_eq_append_getElem hk1, List.take_succ_eq_append_getElem hk2, hk, Classical.not_not.1 h25]⟩, by show l.length - (k + 1) < l.length - k; omega, Zat hF [] rfl (rfl) ⟨rfl, rfl, rfl, trivial⟩⟩
    · refine ZaI (Zaf (Zab (Zaa.go (Zad rfl rfl) (Zae (Zas ?_)))));exact ⟨_, [], [], Zao rfl, rfl, rfl, retT (by have h1 := hk; rw [List.take_of_length_le (by have h := h14; omega), List.take_of_length_le (by have h := h14; omega)] at h1; exact h1), rfl⟩
end Go.Proofs.YtneihdahboilnaaGreat
/- Layer 30: the reference's feasible sets; AtRest. -/
namespace Go.Proofs.YtneihdahboilnaaGreat
open Go.RowKit

def feasR (p : Prb) (l : List Int) : Prop := (∀ id ∈ l, blockR p l id = none) ∧ ∀ x ∈ p.ro, ¬ overL p.it x l < 0
noncomputable instance (p : Prb) (l : List Int) : Decidable (feasR p l) := Classical.propDecidable _
set_option maxRecDepth 100000 in
set_option maxHeartbeats 1000000 in
theorem feasible30_n (p : Prb) (hf : FewP p) (hE : (p.ro.map Roo.r).Nodup) (hrn : ∀ x ∈ p.ro, -100000000000000000 ≤ x.n ∧ x.n ≤ 100000000000000000) (l : List Int) (hl : l.length ≤ 1000) (hids : ∀ id ∈ l, id ∈ p.it.map Itm.id) : PCalls Tryz.prog 20 [.d (prbD p), .d (.sl none (l.map intD))] (boolD (decide (feasR p l))) := by
  have hil := hf.i;have hrl := hf.r;refine Zaz Tryz.func20 rfl rfl Tryz.ntmps20 rfl rfl rfl fun F hF => (Zaf (Zab (Zal.go (ZaO 1 rfl rfl rfl rfl rfl rfl rfl) ?_)));refine Zaa.go (Zad rfl rfl) (Zae (Zaf (Zaf (Zab (Zaa.go (Zad rfl rfl) (Zae (Zar (ZaH (α := Nat) (fun k => ⟨42, [(1, .d (.sl none (l.map intD))), (2, (.ptr 1 0 0)), (5, (.d (intD (k : Int))))], [(1, [prbB2 25 p])]⟩) (fun k => k ≤ l.length ∧ ∀ x ∈ l.take k, blockR p l x = none) (fun k => l.length - k) (0) (⟨Nat.zero_le _, by simp⟩) (Zat hF [1] rfl rfl ⟨rfl, rfl, rfl, trivial⟩) ?_))))))));rintro k ⟨hk0, hkb⟩;refine Zaf (Zaf (Zab (Zaa.go (Zac rfl rfl) (Zaa.go (Zac rfl rfl) (Zaa.go (Zax rfl Tryz.underlying28 rfl) (Zaa.go (ZaG rfl rfl rfl) (Zae (ZaE rfl (fun h12 => ?_) (fun h12 => ?_)))))))))
  · have hk1 : k < l.length := ZaJ h12;refine Zaq (Zaf (Zar (Zaf ?_)));have hbl := blocked_n p hf hE l l[k] hl (hids _ (List.getElem_mem hk1));refine ZaV [[], [], [], [], [2, 3], [2, 3, 4], [0, 1, 2, 3, 4, 5], [0, 1, 2, 3, 4, 5, 6], [0, 1, 2, 3, 4, 5, 6, 7], [0, 1, 2, 3, 4, 5, 6, 7], [], [0, 1, 2, 3, 4, 5, 6, 7, 8, 10], [0, 1, 2, 3, 4, 5, 6, 7, 8, 9, 10, 11]] mixed rfl (dws (Zah [2] [1] rfl rfl (fun _ => Zag (Zap rfl rfl rw25 rfl rfl rfl)) (Zah [1] [] rfl rfl (fun _ => Zag (Zac rfl rfl)) (Zah [1] [] rfl rfl (fun _ => Zag (Zac rfl rfl)) (Zah [5] [] rfl rfl (fun _ => Zag (Zac rfl rfl)) (Zah [18, 19] [] rfl rfl (fun _ => Zag (Zav (k) rfl rfl (rfl) (getm hk1) Tryz.underlying28 rfl sz3 rfl)) (Zah [20] [] rfl rfl (fun _ => Zag (ZaF rfl rfl on3 rfl)) (Zah [16, 17, 21] [] rfl rfl (fun _ => Zag (Zan (hbl) rfl rfl)) ?_))))))));refine Zah [22] [] rfl rfl (fun _ => Zag (Zac rfl rfl)) (Zah [15] [] rfl rfl (fun _ => Zag (Zau rfl rfl rfl)) (Zah [15] [] rfl rfl (fun _ => Zag (Zau rfl rfl rfl)) (Zbi [] [2] [(6, _)] rfl rfl (fun _ => Za7 (ZaR 2 zl58 rfl rfl rfl rfl)) (.inr ⟨6, _, rfl, rfl, rfl, rfl, rfl⟩) rfl rfl rfl rfl rfl (Zbi [6, 23] [2] [] rfl rfl (fun _ => Za7 (ZaA rfl rfl rfl rfl rfl rfl rfl sz58)) (.inl ⟨rfl, rfl⟩) rfl rfl rfl rfl rfl (dwc 12 rfl rfl rfl (dw1 13 rfl rfl (Zaa.go (Zad rfl rfl) (Zae ⟨rfl, ?_⟩))))))));refine dwe (Zaf (Zab ?_))
    cases hbk : blockR p l l[k]
    · refine Zaa.go (Zac rfl rfl) (Zae (ZaU rfl (rfl) (Zaq (Zab (Zaa.go (Zac rfl rfl) (Zaa.go (Zay rfl rfl (wrapS (k + 1) (by omega)) rfl) (Zaa.go (Zad rfl rfl) (Zae ?_))))))));exact ⟨k + 1, ⟨by show k + 1 ≤ _; omega, by rw [List.take_succ_eq_append_getElem hk1]; intro e he; rcases List.mem_append.1 he with he | he; exact hkb e he; rw [List.mem_singleton.1 he]; exact hbk⟩, by show l.length - (k + 1) < l.length - k; omega, Zat hF [1] rfl (rfl) ⟨rfl, rfl, rfl, trivial⟩⟩
    · refine Zaa.go (Zac rfl rfl) (Zae (ZaQ rfl (rfl) (Zaf (Zab (Zaa.go (Zad rfl rfl) (Zae (Zas ?_)))))));exact ⟨_, [], [], Zao rfl, rfl, rfl, retF (fun h => by have h1 := h.1 _ (List.getElem_mem hk1); rw [hbk] at h1; cases h1), rfl⟩
  · refine ZaI (Zaf (Zaf ?_));have hall : ∀ id ∈ l, blockR p l id = none := by have e : k = l.length := (by have h := h12; omega); rw [e, List.take_length] at hkb; exact hkb
    refine Zab (Zaa.go (Zad rfl rfl) (Zae (Zar (ZaH (α := Nat) (fun j => ⟨42, [(1, .d (.sl none (l.map intD))), (2, (.ptr 1 0 0)), (8, (.d (intD (j : Int))))], [(1, [prbB2 25 p])]⟩) (fun j => j ≤ p.ro.length ∧ ∀ x ∈ p.ro.take j, ¬ overL p.it x l < 0) (fun j => p.ro.length - j) (0) (⟨Nat.zero_le _, by simp⟩) (Zat hF [1] rfl rfl ⟨rfl, rfl, rfl, trivial⟩) ?_))));rintro j ⟨hj0, hjb⟩;refine Zaf ?_;refine Zaf (Zab (Zaa.go (Zac rfl rfl) (Zaa.go (Zai rfl Zbj rfl rfl rfl) (Zaa.go (Zaj rfl rfl rfl on22 rfl) (Zaa.go (Zax rfl Tryz.underlying22 rfl) (Zaa.go (ZaG rfl rfl rfl) (Zae (ZaE rfl (fun h30 => ?_) (fun h30 => ?_)))))))))
    · have hj1 : j < p.ro.length := ZaJ h30;refine Zaq (Zaf (Zar (Zaf ?_)));have hovp := over_n p p.ro[j] l hil (hrn _ (List.getElem_mem hj1)) hl (fun i hi => hf.x i hi);refine ZaV [[], [], [1], [], [1, 2, 3], [1, 2, 3, 4], [], [0, 1, 2, 3, 4, 5, 6], [0, 1, 2, 3, 4, 5, 6, 7]] mixed rfl (dws (Zah [2] [1] rfl rfl (fun _ => Zag (Zap rfl rfl rw25 rfl rfl rfl)) (Zah [2] [] rfl rfl (fun _ => Zag (Zai rfl Zbj rfl rfl rfl)) ?_)));refine Zah [34] [1] rfl rfl (fun _ => Zag (Zaj rfl rfl rfl on22 rfl)) (Zah [8] [] rfl rfl (fun _ => Zag (Zac rfl rfl)) (Zah [35, 36] [] rfl rfl (fun _ => Zag (Zav (j) rfl rfl (rfl) (getm hj1) Tryz.underlying22 rfl sz67 rfl)) (Zah [37] [] rfl rfl (fun _ => Zag (ZaP rfl rfl rw67 rfl)) (Zah [1] [] rfl rfl (fun _ => Zag (Zac rfl rfl)) (dwc 7 rfl rfl rfl (dw1 8 rfl rfl (Zaa.go (Zan (hovp) rfl rfl) (Zae ⟨rfl, ?_⟩))))))));refine dw1 9 rfl rfl (Zaa.go (Zbq rfl rfl rfl) (Zae ⟨rfl, ?_⟩));refine dwe (ZaE rfl (fun h41 => ?_) (fun h41 => ?_))
      · refine Zaf (Zab (Zaa.go (Zad rfl rfl) (Zae (Zas ?_))));exact ⟨_, [], [], Zao rfl, rfl, rfl, retF (fun h => by have h1 := h.2 _ (List.getElem_mem hj1); have h2 := h41; rw [Int.max_def] at h2; split at h2 <;> omega), rfl⟩
      · refine Zaq (Zab (Zaa.go (Zac rfl rfl) (Zaa.go (Zay rfl rfl (wrapS (j + 1) (by omega)) rfl) (Zaa.go (Zad rfl rfl) (Zae ?_)))));exact ⟨j + 1, ⟨by show j + 1 ≤ _; omega, by rw [List.take_succ_eq_append_getElem hj1]; intro e he; rcases List.mem_append.1 he with he | he; exact hjb e he; rw [List.mem_singleton.1 he]; have h := h41; rw [Int.max_def] at h; split at h <;> omega⟩, by show p.ro.length - (j + 1) < p.ro.length - j; omega, Zat hF [1] rfl (rfl) ⟨rfl, rfl, rfl, trivial⟩⟩
    · refine ZaI (Zaf (Zab (Zaa.go (Zad rfl rfl) (Zae (Zas ?_)))));exact ⟨_, [], [], Zao rfl, rfl, rfl, retT ⟨hall, fun x hx => hjb x (by rw [List.take_of_length_le (by have h := h30; omega)]; exact hx)⟩, rfl⟩
theorem feasible30_p (p : Prb) (hf : FewP p) (hE : prbE p = 0) (l : List Int) (hl : l.length ≤ 1000) (hids : ∀ id ∈ l, id ∈ p.it.map Itm.id) : PCalls Tryz.prog 20 [.d (prbD p), .d (.sl none (l.map intD))] (boolD (decide (feasR p l))) := feasible30_n p hf (roos_nodup hE) (fun x hx => by have := rooms_amt (Zbn hE).1 x hx; omega) l hl hids
end Go.Proofs.YtneihdahboilnaaGreat
/- Layer 30: what the removal leaves is the largest feasible set. Plain laws. -/
namespace Go.Proofs.YtneihdahboilnaaGreat
open Go.RowKit

theorem netS_ers (ros : List Roo) (its : List Itm) (on : Nat → Bool) : ersN (netS ros its on) = netS ros its on := by
  unfold ersN netS;dsimp only;rw [List.map_map, List.map_map]; rfl
theorem next_at {ros : List Roo} {its : List Itm} (hn : (its.map Itm.id).Nodup) {on : Nat → Bool} {e : Exc} (h : nextN (netS ros its on) = some e) : ∃ i, i < its.length ∧ on i = true ∧ (its.getD i itm0).id = e.id ∧ (its.map Itm.id).idxOf e.id = i := by
  obtain ⟨i, x, hx, hon, hid⟩ := next_on h;obtain ⟨hi, ho, hit⟩ := S_nd_at (netS_ers ros its on) hx;have hei : (its.getD i itm0).id = e.id := by rw [hid, hit]
  refine ⟨i, hi, by rw [← ho]; exact hon, hei, ?_⟩;have h1 := idx_nodup hn (i := i) (by simpa using hi);rw [List.getElem_map] at h1;rw [← hei, ZaK itm0 hi]; exact h1
theorem run_end {ros : List Roo} {its : List Itm} (hn : (its.map Itm.id).Nodup) : ∀ (f : Nat) (on : Nat → Bool), cntOn its.length on ≤ f → nextN (netS ros its (runS ros its f on).2) = none
  | 0, on, h => by
    show nextN (netS ros its on) = none
    cases hne : nextN (netS ros its on) with
    | none => rfl
    | some e =>
      obtain ⟨i, hi, ho, _, _⟩ := next_at hn hne;have := cntOn_off hi ho;omega
  | f + 1, on, h => by
    cases hne : nextN (netS ros its on) with
    | none => rw [run_none hne]; exact hne
    | some e =>
      obtain ⟨i, hi, ho, _, hx⟩ := next_at hn hne;have := cntOn_off hi ho;rw [run_some hne, hx];exact run_end hn f (setOff on i) (by omega)
theorem cntOn_le (n : Nat) (on : Nat → Bool) : cntOn n on ≤ n := by
  unfold cntOn;exact Nat.le_trans (List.length_filter_le _ _) (by simp)
theorem large_next {p : Prb} (hE : prbE p = 0) (hf : FewP p) : nextR p (largeS p) = none := by
  have h := pv_of hE hf;have h1 : ordP p = sortO p.it := if_pos hE;unfold largeS explS;rw [h1, next_eq h];exact run_end h.s.i _ _ (cntOn_le _ _)
theorem overL_nonneg {its : List Itm} {x : Roo} {l : List Int} (h : ∀ i ∈ its, i.id ∈ l → 0 ≤ dltE i x.r) : 0 ≤ overL its x l := by
  have h0 : (0 : Int) ≤ max x.n 0 := Int.le_max_right _ _
  have h1 : ∀ m : List Itm, (∀ i ∈ m, 0 ≤ dltE i x.r) → 0 ≤ (m.map fun i => dltE i x.r).sum := fun m => by
    induction m with
    | nil => intro _; simp
    | cons a m ih =>
      intro hm;have := hm a (List.mem_cons_self ..);have := ih fun i hi => hm i (List.mem_cons_of_mem _ hi);simp only [List.map_cons, List.sum_cons]; omega
  have := h1 (its.filter fun i => decide (i.id ∈ l)) fun i hi => by
    obtain ⟨h2, h3⟩ := List.mem_filter.1 hi;exact h i h2 (of_decide_eq_true h3)
  unfold overL; omega
theorem feas_none {p : Prb} {l : List Int} (h : nextR p l = none) : feasR p l := by
  unfold nextR at h
  cases h1 : l.findSome? (blockR p l) with
  | some e => rw [h1] at h; cases h
  | none =>
    rw [h1] at h;refine ⟨fun id hid => List.findSome?_eq_none_iff.1 h1 id hid, fun x hx ho => ?_⟩;have h2 := List.findSome?_eq_none_iff.1 h x ((ZbY p).mem_iff.2 hx);unfold overX at h2;rw [if_pos ho] at h2
    have h3 : (qIds (sortO p.it) x.r).reverse.find? (fun a => decide (a ∈ l)) = none := by
      cases hf : (qIds (sortO p.it) x.r).reverse.find? (fun a => decide (a ∈ l)) with
      | none => rfl
      | some a => rw [hf] at h2; cases h2
    have h4 := List.find?_eq_none.1 h3
    have := overL_nonneg (its := p.it) (x := x) (l := l) fun i hi hl => Classical.byContradiction fun hneg => by
      have hq : i.id ∈ qIds (sortO p.it) x.r := List.mem_map.2 ⟨i, List.mem_filter.2 ⟨(Za9 p.it).mem_iff.2 hi, by simpa using hneg⟩, rfl⟩;have := h4 _ (List.mem_reverse.2 hq)
      simp at this
      exact this hl
    omega
theorem large_feas {p : Prb} (hE : prbE p = 0) (hf : FewP p) : feasR p (largeS p) := feas_none (large_next hE hf)
theorem block_mono {p : Prb} {l t : List Int} {id : Int} (hs : ∀ x ∈ t, x ∈ l) (h : blockR p t id = none) : blockR p l id = none := by
  unfold blockR at h ⊢
  cases h1 : (rosS p).findSome? (blkR (sortO p.it) t id) with
  | some e => rw [h1] at h; cases h
  | none =>
    rw [h1] at h
    have h2 : (rosS p).findSome? (blkR (sortO p.it) l id) = none := findSome_no fun x hx => by
      have h3 := List.findSome?_eq_none_iff.1 h1 x hx;unfold blkR at h3 ⊢
      split
      · rename_i hq
        rw [if_pos hq] at h3
        have h4 : ((qIds (sortO p.it) x.r).takeWhile fun a => decide (a ≠ id)).find? (fun a => decide (a ∉ t)) = none := by
          cases hf : ((qIds (sortO p.it) x.r).takeWhile fun a => decide (a ≠ id)).find? (fun a => decide (a ∉ t)) with
          | none => rfl
          | some a => rw [hf] at h3; cases h3
        rw [Zco (fun a ha => by
          have := List.find?_eq_none.1 h4 a ha
          simp at this
          simpa using hs a this)]; rfl
      · rfl
    rw [h2];dsimp only at h ⊢
    have h5 : (itmOf p id).af.find? (fun a => decide (a ∉ t)) = none := by
      cases hf : (itmOf p id).af.find? (fun a => decide (a ∉ t)) with
      | none => rfl
      | some a => rw [hf] at h; cases h
    rw [Zco (fun a ha => by
      have := List.find?_eq_none.1 h5 a ha
      simp at this
      simpa using hs a this)]; rfl
end Go.Proofs.YtneihdahboilnaaGreat
/- Layer 30: every feasible set lies in what the removal leaves. Plain laws. -/
namespace Go.Proofs.YtneihdahboilnaaGreat
open Go.RowKit

theorem overL_le {x : Roo} {l t : List Int} (hs : ∀ y ∈ t, y ∈ l) : ∀ {its : List Itm}, (∀ i ∈ its, i.id ∈ l → i.id ∉ t → 0 ≤ dltE i x.r) → overL its x t ≤ overL its x l
  | [], _ => Int.le_refl _
  | a :: its, h => by
    have ih := overL_le hs (its := its) fun i hi => h i (List.mem_cons_of_mem _ hi);have ha := h a (List.mem_cons_self ..);unfold overL at ih ⊢;rw [List.filter_cons, List.filter_cons]
    by_cases h1 : a.id ∈ t
    · rw [if_pos (decide_eq_true h1), if_pos (decide_eq_true (hs _ h1))];simp only [List.map_cons, List.sum_cons]; omega
    · rw [if_neg (by simpa using h1)]
      by_cases h2 : a.id ∈ l
      · rw [if_pos (decide_eq_true h2)];have := ha h2 h1;simp only [List.map_cons, List.sum_cons]; omega
      · rw [if_neg (by simpa using h2)]; exact ih
theorem not_next {p : Prb} (hE : prbE p = 0) {l t : List Int} (ht : feasR p t) (hs : ∀ y ∈ t, y ∈ l) {e : Exc} (hn : nextR p l = some e) : e.id ∉ t := fun het => by
  unfold nextR at hn
  split at hn
  · rename_i e' h1
    injection hn with hn; subst hn
    obtain ⟨id, hid, h2⟩ := List.exists_of_findSome?_eq_some h1;have h3 := blockR_id h2;rw [h3] at het;rw [block_mono hs (ht.1 id het)] at h2; cases h2
  · obtain ⟨x, hx, h2⟩ := List.exists_of_findSome?_eq_some hn;have hxp := (ZbY p).mem_iff.1 hx;unfold overX at h2
    split at h2
    · rename_i ho
      obtain ⟨a, ha, rfl⟩ := Option.map_eq_some_iff.1 h2;dsimp only at het;obtain ⟨hal, u, v, huv, hu⟩ := List.find?_eq_some_iff_append.1 ha
      have hQ : qIds (sortO p.it) x.r = v.reverse ++ a :: u.reverse := by
        have := congrArg List.reverse huv;rw [List.reverse_reverse, List.reverse_append, List.reverse_cons, List.append_assoc] at this;exact this
      have hQn : (qIds (sortO p.it) x.r).Nodup := by
        have h1 : ((sortO p.it).map Itm.id).Nodup := ((Za9 p.it).map Itm.id).nodup_iff.2 (Zcm (Zbn hE).2.1);unfold qIds;exact h1.sublist ((List.filter_sublist).map Itm.id)
      have hav : a ∉ v.reverse := fun hm => by
        rw [hQ, List.nodup_append] at hQn;exact hQn.2.2 _ hm _ (List.mem_cons_self ..) rfl
      have hblk := ht.1 a het
      have hall : ∀ b ∈ v.reverse, b ∈ t := fun b hb => by
        unfold blockR at hblk
        cases h1 : (rosS p).findSome? (blkR (sortO p.it) t a) with
        | some e => rw [h1] at hblk; cases hblk
        | none =>
          have h3 := List.findSome?_eq_none_iff.1 h1 x hx;unfold blkR at h3;rw [if_pos (by rw [hQ]; simp)] at h3;have hlt : v.reverse.length < (qIds (sortO p.it) x.r).length := by rw [hQ, List.length_append]; simp
          have htk : (qIds (sortO p.it) x.r).take v.reverse.length = v.reverse := by rw [hQ, List.take_left']; rfl
          have hat : (qIds (sortO p.it) x.r)[v.reverse.length] = a := by
            have : (qIds (sortO p.it) x.r)[v.reverse.length]? = some a := by
              rw [hQ, List.getElem?_append_right (Nat.le_refl _), Nat.sub_self]; rfl
            rw [List.getElem?_eq_getElem hlt] at this; exact Option.some.inj this
          rw [tw_take hlt (fun c hc => by rw [htk] at hc; exact decide_eq_true fun e => hav (e ▸ hc)) (by rw [hat]; simp), htk] at h3
          have h4 : v.reverse.find? (fun a => decide (a ∉ t)) = none := by
            cases hf : v.reverse.find? (fun a => decide (a ∉ t)) with
            | none => rfl
            | some c => rw [hf] at h3; cases h3
          have := List.find?_eq_none.1 h4 b hb
          simpa using this
      have hle := overL_le (x := x) hs (its := p.it) fun i hi h1 h2 => Classical.byContradiction fun hneg => by
        have hq : i.id ∈ qIds (sortO p.it) x.r := List.mem_map.2 ⟨i, List.mem_filter.2 ⟨(Za9 p.it).mem_iff.2 hi, by simpa using hneg⟩, rfl⟩;rw [hQ] at hq;rcases List.mem_append.1 hq with hq | hq
        · exact h2 (hall _ hq)
        · rcases List.mem_cons.1 hq with hq | hq
          · rw [hq] at h2; exact h2 het
          · have := hu _ (List.mem_reverse.1 hq)
            simp at this
            exact this h1
      exact ht.2 x hxp (by omega)
    · cases h2
theorem large_max {p : Prb} (hE : prbE p = 0) (hf : FewP p) {t : List Int} (ht : feasR p t) (hs : ∀ y ∈ t, y ∈ p.it.map Itm.id) : ∀ y ∈ t, y ∈ largeS p := by
  have h := pv_of hE hf;have h1 : ordP p = sortO p.it := if_pos hE
  have key : ∀ (f : Nat) (on : Nat → Bool), (∀ y ∈ t, y ∈ onIds (sortO p.it) on (sortO p.it).length) → ∀ y ∈ t, y ∈ onIds (sortO p.it) (runS (rosS p) (sortO p.it) f on).2 (sortO p.it).length := by
    intro f
    induction f with
    | zero => intro on ho; exact ho
    | succ f ih =>
      intro on ho
      cases hne : nextN (netS (rosS p) (sortO p.it) on) with
      | none => rw [run_none hne]; exact ho
      | some e =>
        obtain ⟨i, hi, _, hei, hx⟩ := next_at h.s.i hne;rw [run_some hne, hx];refine ih (setOff on i) fun y hy => ?_;have hnt := not_next hE ht ho (by rw [next_eq h]; exact hne);rw [← without_off h.s.i on hi, hei];exact List.mem_filter.2 ⟨ho y hy, decide_eq_true fun e2 => hnt (e2 ▸ hy)⟩
  unfold largeS explS;rw [h1];refine key _ _ fun y hy => ?_
  have h2 : onIds (sortO p.it) (fun _ => true) (sortO p.it).length = (sortO p.it).map Itm.id := by
    conv => rhs; rw [its_range (sortO p.it)]
    unfold onIds;rw [List.map_map, List.filter_eq_self.2 (fun _ _ => rfl)]; rfl
  rw [h2];exact ((Za9 p.it).map Itm.id).mem_iff.2 (hs y hy)
end Go.Proofs.YtneihdahboilnaaGreat
/- Layer 30: the reference's union of all feasible sets. -/
namespace Go.Proofs.YtneihdahboilnaaGreat
open Go.RowKit

def sub30 (ids : List Int) (m k : Nat) : List Int := ((List.range k).filter fun j => decide (m / 2 ^ j % 2 = 1)).map fun j => ids.getD j 0
theorem sub30_snoc (ids : List Int) (m k : Nat) : sub30 ids m (k + 1) = sub30 ids m k ++ if m / 2 ^ k % 2 = 1 then [ids.getD k 0] else [] := by
  unfold sub30;rw [List.range_succ, List.filter_append, List.map_append, filt1]
  by_cases h : m / 2 ^ k % 2 = 1
  · rw [if_pos (decide_eq_true h), if_pos h]; rfl
  · rw [if_neg (by simpa using h), if_neg h]; rfl
theorem sub30_len (ids : List Int) (m k : Nat) : (sub30 ids m k).length ≤ k := by
  unfold sub30; rw [List.length_map];exact Nat.le_trans (List.length_filter_le _ _) (by simp)
theorem sub30_mem {ids : List Int} {m : Nat} {x : Int} (h : x ∈ sub30 ids m ids.length) : x ∈ ids := by
  obtain ⟨j, hj, rfl⟩ := List.mem_map.1 h;have := List.mem_range.1 (List.mem_filter.1 hj).1;rw [ZaK 0 this]; exact List.getElem_mem this
def InU (p : Prb) (ids : List Int) (M : Nat) (x : Int) : Prop := ∃ m, m < M ∧ feasR p (sub30 ids m ids.length) ∧ x ∈ sub30 ids m ids.length
noncomputable instance (p : Prb) (ids : List Int) (M : Nat) (x : Int) : Decidable (InU p ids M x) := Classical.propDecidable _
noncomputable def unionR (p : Prb) : List Int := ((sortO p.it).map Itm.id).filter fun x => decide (InU p ((sortO p.it).map Itm.id) (2 ^ p.it.length) x)
theorem InU_succ (p : Prb) (ids : List Int) (M : Nat) (x : Int) : InU p ids (M + 1) x ↔ InU p ids M x ∨ (feasR p (sub30 ids M ids.length) ∧ x ∈ sub30 ids M ids.length) := by
  constructor
  · rintro ⟨m, h1, h2⟩
    by_cases e : m = M
    · subst e; exact .inr h2
    · exact .inl ⟨m, by omega, h2⟩
  · rintro (⟨m, h1, h2⟩ | h)
    · exact ⟨m, by omega, h2⟩
    · exact ⟨M, by omega, h⟩
theorem pow_b {n : Nat} (h : n ≤ 12) : 2 ^ n ≤ 4096 := Nat.le_trans (Nat.pow_le_pow_right (by omega) h) (by decide)
theorem shlN {n : Nat} (h : n ≤ 12) : IntKind.i64.wrap ((1 : Int) * 2 ^ (min ((n : Int)).toNat IntKind.i64.bits)) = ((2 ^ n : Nat) : Int) := by
  have e : min ((n : Int)).toNat IntKind.i64.bits = n := by
    have : IntKind.i64.bits = 64 := rfl;rw [this, Int.toNat_natCast]; omega
  rw [e, Int.one_mul];have hp := pow_b h;have e2 : (2 : Int) ^ n = ((2 ^ n : Nat) : Int) := by rw [Int.natCast_pow]; rfl
  rw [e2]
  obtain ⟨v, hv⟩ : ∃ v, 2 ^ n = v := ⟨_, rfl⟩
  rw [hv] at hp ⊢;exact IntWalk.i64_in _ (by omega)
theorem shrN (m j : Nat) (h : j ≤ 12) : ((m : Int)).fdiv (2 ^ (min ((j : Int)).toNat IntKind.i64.bits)) = ((m / 2 ^ j : Nat) : Int) := by
  have e : min ((j : Int)).toNat IntKind.i64.bits = j := by
    have : IntKind.i64.bits = 64 := rfl;rw [this, Int.toNat_natCast]; omega
  rw [e];have e2 : (2 : Int) ^ j = ((2 ^ j : Nat) : Int) := by rw [Int.natCast_pow]; rfl
  rw [e2, Int.fdiv_eq_ediv_of_nonneg _ (Int.natCast_nonneg _), Int.natCast_ediv]
theorem remN (a : Nat) : ((a : Int)).tmod 2 = ((a % 2 : Nat) : Int) := rfl
set_option maxRecDepth 100000 in
set_option maxHeartbeats 1000000 in
theorem union30_p (p : Prb) (hf : FewP p) (hE : prbE p = 0) (h12 : p.it.length ≤ 12) : PCalls Tryz.prog 18 [.d (prbD p)] (.sl none ((unionR p).map intD)) := by
  have hor := order30_p p (by omega);have hsl := ZbE p.it;have hsm : ∀ id ∈ (sortO p.it).map Itm.id, id ∈ p.it.map Itm.id := fun id h => ((Za9 p.it).map Itm.id).mem_iff.1 h;unfold unionR
  obtain ⟨ids, hids⟩ : ∃ ids, (sortO p.it).map Itm.id = ids := ⟨_, rfl⟩
  have hil : ids.length = p.it.length := by rw [← hids, List.length_map, hsl]
  rw [hids] at hor hsm ⊢;rw [← hil] at h12 ⊢;have hpb := pow_b h12;refine Zaz Tryz.func18 rfl rfl Tryz.ntmps18 rfl rfl rfl fun F hF => (Zaf (Zab (Zal.go (ZaO 1 rfl rfl rfl rfl rfl rfl rfl) (Zaa.go (Zad rfl rfl) (Zae ?_)))));refine Zaf (Zab (Zaa.go (Zap rfl rfl rw25 rfl rfl rfl) (Zaa.go (Zan (hor) rfl rfl) (Zaa.go (Zad rfl rfl) (Zae (Zaf (Zab (Zaa.go (Zad rfl rfl) ?_))))))));refine Zae (Zaf (Zaf (Zab (Zaa.go (Zad rfl rfl) (Zae (Zar (ZbD 4 900 sl28 rfl rfl rfl rfl (ZaH (α := Nat × List Int) (fun q => ⟨63, [(1, (.ptr 1 0 0)), (3, (.d (.sl none (ids.map intD)))), (4, (.own 900 0 q.2.length)), (5, (.d (intD (q.1 : Int))))], [(1, [prbB2 25 p]), (900, [.rowD 3 1 (q.2.map intD)])]⟩) (fun q => q.1 ≤ 2 ^ ids.length ∧ q.2.length ≤ q.1 * 12 ∧ ∀ x, x ∈ q.2 ↔ InU p ids q.1 x) (fun q => 2 ^ ids.length - q.1) ((0, [])) (⟨Nat.zero_le _, by simp, fun x => ⟨fun h => (by cases h), fun ⟨m, h, _⟩ => absurd h (by omega)⟩⟩) (Zat hF [1, 900] rfl rfl ⟨rfl, rfl, rfl, rfl, trivial⟩) ?_))))))));rintro ⟨m, acc⟩ ⟨hm0, hal, hA⟩;dsimp only at hm0 hal hA ⊢;refine Zaf ?_;refine Zaf (Zab (Zaa.go (Zac rfl rfl) (Zaa.go (Zac rfl rfl) (Zaa.go (Zax rfl Tryz.underlying28 rfl) (Zaa.go (st_shl rfl rfl (by omega) (shlN h12) rfl) (Zaa.go (ZaG rfl rfl rfl) (Zae (ZaE rfl (fun h16 => ?_) (fun h16 => ?_)))))))))
  · have hm1 : m < 2 ^ ids.length := by have h := h16; omega
    refine Zaq (Zaf (Zar (Zaf (Zab (Zaa.go (Zad rfl rfl) ?_)))));refine Zae (Zaf (Zaf (Zab (Zaa.go (Zad rfl rfl) (Zae (Zar (ZbD 6 901 sl28 rfl rfl rfl rfl (ZaH (α := Nat × List Int) (fun q => ⟨63, [(1, (.ptr 1 0 0)), (3, (.d (.sl none (ids.map intD)))), (4, (.own 900 0 acc.length)), (5, (.d (intD (m : Int)))), (6, (.own 901 0 q.2.length)), (7, (.d (intD (q.1 : Int))))], [(1, [prbB2 25 p]), (900, [.rowD 3 1 (acc.map intD)]), (901, [.rowD 3 1 (q.2.map intD)])]⟩) (fun q => q.1 ≤ ids.length ∧ q.2 = sub30 ids m q.1) (fun q => ids.length - q.1) ((0, [])) (⟨Nat.zero_le _, rfl⟩) (Zat hF [1, 900, 901] rfl rfl ⟨rfl, rfl, rfl, rfl, rfl, rfl, trivial⟩) ?_))))))));rintro ⟨k, s⟩ ⟨hk0, hs⟩;dsimp only at hk0 hs ⊢;refine Zaf (Zaf (Zab (Zaa.go (Zac rfl rfl) (Zaa.go (Zac rfl rfl) (Zaa.go (Zax rfl Tryz.underlying28 rfl) (Zaa.go (ZaG rfl rfl rfl) (Zae (ZaE rfl (fun h22 => ?_) (fun h22 => ?_)))))))))
    · have hk1 : k < ids.length := ZaJ h22;refine Zaq (Zaf (Zar (Zaf ?_)));have hsl2 : s.length ≤ 12 := by rw [hs]; have := sub30_len ids m k; omega
      refine Zab (Zaa.go (Zac rfl rfl) (Zaa.go (Zac rfl rfl) (Zaa.go (st_shr rfl rfl (by omega) (shrN m k (by omega)) rfl) (Zaa.go (st_rem rfl rfl (by omega) (remN (m / 2 ^ k)) rfl) (Zaa.go (Za1 rfl rfl rfl) (Zae (ZaE rfl (fun h29 => ?_) (fun h29 => ?_))))))))
      · refine Zab (Zaa.go (Zac rfl rfl) (Zaa.go (Zac rfl rfl) (Zaa.go (Zac rfl rfl) (Zaa.go (Zav (k) rfl rfl (rfl) (getm hk1) Tryz.underlying28 rfl sz3 rfl) (Zaa.go (ZaF rfl rfl on3 rfl) ?_)))));refine Zal.go (ZaC 2 sl28 rfl rfl rfl rfl rfl rfl rfl rfl) (Zal.go (Za6 (s) ([ids[k]]) rfl rfl rfl rfl rfl rfl rfl rfl sl28 (by simp only [List.length_singleton]; omega) rfl rfl rfl rfl) (Zaa.go (Zad rfl rfl) (Zae (Zab (Zaa.go (Zac rfl rfl) (Zaa.go (Zay rfl rfl (wrapS (k + 1) (by omega)) rfl) (Zaa.go (Zad rfl rfl) (Zae ?_))))))));exact ⟨(k + 1, _), ⟨by show k + 1 ≤ _; omega, by show _ = sub30 ids m (k + 1); rw [sub30_snoc, if_pos (by have h := h29; omega), ← hs, ZaK 0 hk1]⟩, by show ids.length - (k + 1) < ids.length - k; omega, Zat hF [1, 900, 901] rfl (rfl) ⟨rfl, rfl, rfl, rfl, rfl, rfl, trivial⟩⟩
      · refine Zaq (Zab (Zaa.go (Zac rfl rfl) (Zaa.go (Zay rfl rfl (wrapS (k + 1) (by omega)) rfl) (Zaa.go (Zad rfl rfl) (Zae ?_)))));exact ⟨(k + 1, _), ⟨by show k + 1 ≤ _; omega, by show _ = sub30 ids m (k + 1); rw [sub30_snoc, if_neg (by have h := h29; omega), List.append_nil, ← hs]⟩, by show ids.length - (k + 1) < ids.length - k; omega, Zat hF [1, 900, 901] rfl (rfl) ⟨rfl, rfl, rfl, rfl, rfl, rfl, trivial⟩⟩
    · refine ZaI (Zaf ?_);have hke : k = ids.length := by have h := h22; omega
      rw [hke] at hs;have hsl2 : s.length ≤ 12 := by rw [hs]; have := sub30_len ids m ids.length; omega
      have hfe := feasible30_p p hf hE s (by omega) (fun id h => hsm id (sub30_mem (m := m) (by rw [← hs]; exact h)));refine Zbl (emb := intD) 6 901 s rfl rfl rfl rfl rfl rfl rfl (Zab (Zaa.go (Zap rfl rfl rw25 rfl rfl rfl) (Zaa.go (Zac rfl rfl) (Zaa.go (Zan (hfe) rfl rfl) (Zae (ZaE rfl (fun h39 => ?_) (fun h39 => ?_)))))))
      · refine Zab (Zaa.go (Zac rfl rfl) ?_);refine Zaa.go (Zac rfl rfl) (Zal.go (Zbr (acc) (s) rfl rfl rfl rfl rfl rfl (fun _ => rfl) sl28 (by omega) rfl rfl rfl rfl) (Zaa.go (Zad rfl rfl) (Zae (Zab (Zaa.go (Zac rfl rfl) (Zaa.go (Zay rfl rfl (wrapS (m + 1) (by omega)) rfl) (Zaa.go (Zad rfl rfl) (Zae ?_))))))));exact ⟨(m + 1, _), ⟨by show m + 1 ≤ _; omega, by show (acc ++ s).length ≤ (m + 1) * 12; rw [List.length_append]; omega, fun x => by show x ∈ acc ++ s ↔ _; rw [InU_succ, List.mem_append, hA x, hs]; constructor; exact fun h => h.elim .inl fun h => .inr ⟨by rw [← hs]; simpa using h39, h⟩; exact fun h => h.elim .inl fun h => .inr h.2⟩, by show 2 ^ ids.length - (m + 1) < 2 ^ ids.length - m; omega, Zat hF [1, 900] rfl (rfl) ⟨rfl, rfl, rfl, rfl, trivial⟩⟩
      · refine Zaq (Zab (Zaa.go (Zac rfl rfl) (Zaa.go (Zay rfl rfl (wrapS (m + 1) (by omega)) rfl) (Zaa.go (Zad rfl rfl) (Zae ?_)))));exact ⟨(m + 1, _), ⟨by show m + 1 ≤ _; omega, by show acc.length ≤ (m + 1) * 12; omega, fun x => by show x ∈ acc ↔ _; rw [InU_succ, hA x]; constructor; exact .inl; exact fun h => h.elim id fun h => absurd (by rw [hs]; exact h.1) (by simpa using h39 : ¬ feasR p s)⟩, by show 2 ^ ids.length - (m + 1) < 2 ^ ids.length - m; omega, Zat hF [1, 900] rfl (rfl) ⟨rfl, rfl, rfl, rfl, trivial⟩⟩
  · refine ZaI (Zaf ?_);have hme : m = 2 ^ ids.length := by have h := h16; omega
    refine Zbl (emb := intD) 4 900 acc rfl rfl rfl rfl rfl rfl rfl (Zab (Zaa.go (Zad rfl rfl) ?_));refine Zae (Zaf (Zaf (Zab (Zaa.go (Zad rfl rfl) (Zae (Zar (ZbD 8 902 sl28 rfl rfl rfl rfl (ZaH (α := Nat × List Int) (fun q => ⟨63, [(3, (.d (.sl none (ids.map intD)))), (4, (.d (.sl none (acc.map intD)))), (8, (.own 902 0 q.2.length)), (9, (.d (intD (q.1 : Int))))], [(902, [.rowD 3 1 (q.2.map intD)])]⟩) (fun q => q.1 ≤ ids.length ∧ q.2 = (ids.take q.1).filter fun x => decide (InU p ids (2 ^ ids.length) x)) (fun q => ids.length - q.1) ((0, [])) (⟨Nat.zero_le _, rfl⟩) (Zat hF [902] rfl rfl ⟨rfl, rfl, rfl, rfl, trivial⟩) ?_))))))));rintro ⟨k, u⟩ ⟨hk0, hu⟩;dsimp only at hk0 hu ⊢;refine Zaf (Zaf (Zab (Zaa.go (Zac rfl rfl) (Zaa.go (Zac rfl rfl) (Zaa.go (Zax rfl Tryz.underlying28 rfl) (Zaa.go (ZaG rfl rfl rfl) (Zae (ZaE rfl (fun h46 => ?_) (fun h46 => ?_)))))))))
    · have hk1 : k < ids.length := ZaJ h46;refine Zaq (Zaf (Zar (Zaf ?_)));have hul : u.length ≤ 12 := by rw [hu]; have := List.length_filter_le (fun x => decide (InU p ids (2 ^ ids.length) x)) (ids.take k); rw [List.length_take] at this; omega
      refine Zab (Zaa.go (Zac rfl rfl) (Zaa.go (Zac rfl rfl) (Zaa.go (Zac rfl rfl) (Zaa.go (Zav (k) rfl rfl (rfl) (getm hk1) Tryz.underlying28 rfl sz3 rfl) (Zaa.go (ZaF rfl rfl on3 rfl) (Zaa.go (Zan (has30_p acc ids[k] (by omega)) rfl rfl) (Zae (ZaE rfl (fun h54 => ?_) (fun h54 => ?_)))))))))
      · refine Zab (Zaa.go (Zac rfl rfl) (Zaa.go (Zac rfl rfl) (Zaa.go (Zac rfl rfl) (Zaa.go (Zav (k) rfl rfl (rfl) (getm hk1) Tryz.underlying28 rfl sz3 rfl) (Zaa.go (ZaF rfl rfl on3 rfl) ?_)))));refine Zal.go (ZaC 3 sl28 rfl rfl rfl rfl rfl rfl rfl rfl) (Zal.go (Za6 (u) ([ids[k]]) rfl rfl rfl rfl rfl rfl rfl rfl sl28 (by simp only [List.length_singleton]; omega) rfl rfl rfl rfl) (Zaa.go (Zad rfl rfl) (Zae (Zab (Zaa.go (Zac rfl rfl) (Zaa.go (Zay rfl rfl (wrapS (k + 1) (by omega)) rfl) (Zaa.go (Zad rfl rfl) (Zae ?_))))))));exact ⟨(k + 1, _), ⟨by show k + 1 ≤ _; omega, by show _ = (ids.take (k + 1)).filter _; rw [ZbW hk1, if_pos (decide_eq_true (by rw [← hme]; exact (hA _).1 (by simpa using h54))), ← hu]⟩, by show ids.length - (k + 1) < ids.length - k; omega, Zat hF [902] rfl (rfl) ⟨rfl, rfl, rfl, rfl, trivial⟩⟩
      · refine Zaq (Zab (Zaa.go (Zac rfl rfl) (Zaa.go (Zay rfl rfl (wrapS (k + 1) (by omega)) rfl) (Zaa.go (Zad rfl rfl) (Zae ?_)))));exact ⟨(k + 1, _), ⟨by show k + 1 ≤ _; omega, by show _ = (ids.take (k + 1)).filter _; rw [ZbW hk1, if_neg (by rw [decide_eq_true_eq, ← hme]; exact fun h => absurd ((hA _).2 h) (by simpa using h54)), List.append_nil, ← hu]⟩, by show ids.length - (k + 1) < ids.length - k; omega, Zat hF [902] rfl (rfl) ⟨rfl, rfl, rfl, rfl, trivial⟩⟩
    · refine ZaI (Zaf (Zbl (emb := intD) 8 902 u rfl rfl rfl rfl rfl rfl rfl (Zab (Zaa.go (Zac rfl rfl) (Zaa.go (Zad rfl rfl) (Zae (Zas ?_)))))));exact ⟨_, [], [], Zao rfl, rfl, rfl, by rw [hu, List.take_of_length_le (by have h := h46; omega)], rfl⟩
end Go.Proofs.YtneihdahboilnaaGreat
/- Layer 30: the union of all feasible sets is what the removal leaves. Plain laws. -/
namespace Go.Proofs.YtneihdahboilnaaGreat
open Go.RowKit

theorem bits_ex (on : Nat → Bool) : ∀ n : Nat, ∃ m, m < 2 ^ n ∧ ∀ j, j < n → (m / 2 ^ j % 2 = 1 ↔ on j = true)
  | 0 => ⟨0, by simp, fun j h => absurd h (by omega)⟩
  | n + 1 => by
    obtain ⟨m, h1, h2⟩ := bits_ex on n;have hp : 2 ^ (n + 1) = 2 ^ n + 2 ^ n := by rw [Nat.pow_succ]; omega
    cases ho : on n with
    | false =>
      refine ⟨m, by omega, fun j hj => ?_⟩
      by_cases e : j = n
      · subst e;rw [Nat.div_eq_of_lt h1, ho]; simp
      · exact h2 j (by omega)
    | true =>
      refine ⟨2 ^ n + m, by omega, fun j hj => ?_⟩
      by_cases e : j = n
      · subst e
        have : (2 ^ j + m) / 2 ^ j = 1 := by
          rw [Nat.add_div_left _ (Nat.pow_pos (by omega)), Nat.div_eq_of_lt h1]
        rw [this, ho]; simp
      · have hjn : j < n := by omega
        have hs : 2 ^ n = 2 ^ j * (2 * 2 ^ (n - j - 1)) := by
          rw [← Nat.mul_assoc, ← Nat.pow_succ, ← Nat.pow_add]; congr 1; omega
        have : (2 ^ n + m) / 2 ^ j % 2 = m / 2 ^ j % 2 := by
          rw [hs, Nat.mul_add_div (Nat.pow_pos (by omega)), Nat.mul_add_mod]
        rw [this]; exact h2 j hjn
theorem onIds_filter {its : List Itm} (hn : (its.map Itm.id).Nodup) (on : Nat → Bool) : onIds its on its.length = (its.map Itm.id).filter fun x => decide (x ∈ onIds its on its.length) := by
  obtain ⟨l, hl⟩ : ∃ l, onIds its on its.length = l := ⟨_, rfl⟩
  have h1 : its.map Itm.id = (List.range its.length).map fun i => (its.getD i itm0).id := by
    conv => lhs; rw [its_range its]
    rw [List.map_map]; rfl
  rw [h1, List.filter_map];show ((List.range its.length).filter on).map _ = _
  congr 1
  refine List.filter_congr fun i hi => ?_;have := on_mem hn on (List.mem_range.1 hi);show on i = decide ((its.getD i itm0).id ∈ onIds its on its.length)
  cases ho : on i with
  | true => exact (decide_eq_true (this.2 ho)).symm
  | false => exact (decide_eq_false fun h => by rw [this.1 h] at ho; cases ho).symm
theorem union_large {p : Prb} (hE : prbE p = 0) (hf : FewP p) : unionR p = largeS p := by
  have h := pv_of hE hf;have h1 : ordP p = sortO p.it := if_pos hE;have hlf := large_feas hE hf;have hlm := fun t ht hs => large_max (t := t) hE hf ht hs;have hsl := ZbE p.it
  have hL : ∃ on, largeS p = onIds (sortO p.it) on (sortO p.it).length := ⟨(explS p).2, by unfold largeS; rw [h1]⟩
  obtain ⟨on, hon⟩ := hL;unfold unionR;rw [hon, onIds_filter h.s.i on, ← hon];refine List.filter_congr fun x hx => (decide_eq_decide.2 ⟨fun ⟨m, _, h2, h3⟩ => hlm _ h2 (fun y hy => ((Za9 p.it).map Itm.id).mem_iff.1 (sub30_mem hy)) x h3, fun hxl => ?_⟩);obtain ⟨m, hm1, hm2⟩ := bits_ex on p.it.length
  have hsub : sub30 ((sortO p.it).map Itm.id) m ((sortO p.it).map Itm.id).length = largeS p := by
    rw [hon];unfold sub30 onIds;rw [List.length_map]
    have e : (List.range (sortO p.it).length).filter (fun j => decide (m / 2 ^ j % 2 = 1)) = (List.range (sortO p.it).length).filter on := List.filter_congr fun j hj => by
      have hj' := List.mem_range.1 hj;have := hm2 j (by omega)
      cases ho : on j with
      | true => exact decide_eq_true (this.2 ho)
      | false => exact decide_eq_false fun h => by rw [this.1 h] at ho; cases ho
    rw [e];refine List.map_congr_left fun j hj => ?_;have hj' := List.mem_range.1 (List.mem_filter.1 hj).1;rw [ZaK 0 (by simpa using hj'), List.getElem_map, ZaK itm0 hj']
  exact ⟨m, hm1, by rw [hsub]; exact hlf, by rw [hsub]; exact hxl⟩
end Go.Proofs.YtneihdahboilnaaGreat
