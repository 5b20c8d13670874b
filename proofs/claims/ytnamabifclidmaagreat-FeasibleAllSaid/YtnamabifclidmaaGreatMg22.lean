/- Layer 29: the reference's functions. -/
import Derived.Test.YtnamabifclidmaaGreatMg21
namespace Go.Proofs.YtnamabifclidmaaGreat
open Go.RowKit

structure PV (p : Prb) : Prop where
  e : prbE p = 0
  b : PrbB p
  i : p.it.length ≤ 1000
  r : p.ro.length ≤ 1000
  q : ∀ i ∈ p.it, i.po.length ≤ 1000 ∧ i.pa.length ≤ 1000 ∧ i.af.length ≤ 1000
theorem blk1_in {p : Prb} {f : Int → Bool} {i : Int} (h : f i = true) : blk1 p f i = blkF f (req p i) := if_pos h
theorem blk1_out {p : Prb} {f : Int → Bool} {i : Int} (h : ¬ f i = true) : blk1 p f i = [] := if_neg h
set_option maxRecDepth 100000 in
theorem blocks29_p (p : Prb) (l : List Int) (hv : PV p) (hl : l.length ≤ 100000) : PCalls Tryz.prog 22 [.d (prbD p), .d (.sl none (l.map intD))] (.sl none ((blks p (inL l)).map bkdD)) := by
  have hO : ordP p = sortO p.it := if_pos hv.e;have h1 := hv.i;have hso := refsorted_p p.it h1;have hmm := fun x hx => missing29_p p l x hv.e hv.b h1 hv.r hv.q hl hx;have hrl := fun i => req_len hv.b h1 hv.r i;have hms : ∀ x ∈ sortO p.it, x ∈ p.it := fun x hx => (sortO_perm p.it).mem_iff.1 hx;have hsl := sortO_len p.it;have hbs : blks p (inL l) = (sortO p.it).flatMap fun x => blk1 p (inL l) x.id := by unfold blks Za1; rw [hO, List.flatMap_map]
  rw [hbs]
  obtain ⟨S, hS⟩ : ∃ S, sortO p.it = S := ⟨_, rfl⟩
  rw [hS] at hso hms hsl ⊢;refine ZaC Tryz.func22 rfl rfl Tryz.ntmps22 rfl rfl rfl fun F hF => ?_;refine Zaf ?_;refine Zab ?_;refine Zal.go (ZaM 1 rfl rfl rfl rfl rfl rfl rfl) ?_;refine Zaa.go (Zad rfl rfl) ?_;refine Zae ?_;refine Zaf ?_;refine Zab ?_;refine Zaa.go (Zad rfl rfl) ?_;refine Zae ?_;refine Zaf ?_;refine a_adopt 5 900 sl42 rfl rfl rfl rfl ?_;refine Zab ?_;refine Zaa.go (Zai rfl Zbc rfl rfl rfl) ?_;refine Zaa.go (Zaj rfl rfl rfl on23 rfl) ?_;refine Zaa.go (Zas (hso) rfl rfl) ?_;refine Zaa.go (Zad rfl rfl) ?_;refine Zae ?_;refine Zaf ?_;refine Zaf ?_;refine Zab ?_;refine Zaa.go (Zad rfl rfl) ?_;refine Zae ?_;refine Zao ?_;refine ZaP (α := Nat × List Bkd) (fun q => ⟨34, [(1, .d (.sl none (l.map intD))), (2, (.ptr 1 0 0)), (5, (.own 900 0 q.2.length)), (6, (.d (.sl none (S.map itmD)))), (7, (.d (intD (q.1 : Int))))], [(900, [.rowD 54 8 (q.2.map bkdD)]), (1, [prbB2 25 p])]⟩) (fun q => q.1 ≤ S.length ∧ q.2 = (S.take q.1).flatMap (fun x => blk1 p (inL l) x.id) ∧ q.2.length ≤ q.1 * 1100000) (fun q => S.length - q.1) ((0, [])) (⟨Nat.zero_le _, rfl, Nat.le_refl _⟩) (Zau hF [900, 1] rfl rfl ⟨rfl, rfl, rfl, rfl, rfl, trivial⟩) ?_;rintro ⟨k, acc⟩ ⟨hk0, hA, hL⟩;dsimp only at hk0 hA hL ⊢;refine Zaf ?_;refine Zaf ?_;refine Zab ?_;refine Zaa.go (Zac rfl rfl) ?_;refine Zaa.go (Zac rfl rfl) ?_;refine Zaa.go (Zaw rfl Tryz.underlying23 rfl) ?_;refine Zaa.go (ZaH rfl rfl rfl) ?_;refine Zae ?_;refine ZaD rfl (fun h14 => ?_) (fun h14 => ?_)
  · have hk1 : k < S.length := ZaJ h14;refine Zap ?_;refine Zaf ?_;refine Zao ?_;refine Zaf ?_;refine Zab ?_;refine Zaa.go (Zac rfl rfl) ?_;refine Zaa.go (Zac rfl rfl) ?_;refine Zaa.go (Zac rfl rfl) ?_;refine Zaa.go (Zat (k) rfl rfl (rfl) (getm hk1) Tryz.underlying23 rfl sz80 rfl) ?_;refine Zaa.go (ZaX rfl fi80_0 rfl rfl rfl) ?_;refine Zaa.go (Zaq rfl rfl on3 rfl) ?_;refine Zaa.go (Zas (in29_p l S[k].id (by omega)) rfl rfl) ?_;refine Zae ?_;refine ZaD rfl (fun h23 => ?_) (fun h23 => ?_)
    · refine ZaV [[], [], [], [], [], [3, 4], [3, 4, 5], [1, 2, 3, 4, 5, 6], [0, 1, 2, 3, 4, 5, 6, 7], [0, 1, 2, 3, 4, 5, 6, 7, 8]] mixed rfl ?_;refine dws ?_;refine Zah [5] [] rfl rfl (fun _ => Zag (Zac rfl rfl)) ?_;refine Zav [2] rfl rfl (fun _ => Zag (Zay rfl rfl rw25 rfl rfl rfl)) ?_;refine Zah [1] [] rfl rfl (fun _ => Zag (Zac rfl rfl)) ?_;refine Zah [6] [] rfl rfl (fun _ => Zag (Zac rfl rfl)) ?_;refine Zah [7] [] rfl rfl (fun _ => Zag (Zac rfl rfl)) ?_;refine Zah [27, 28] [] rfl rfl (fun _ => Zag (Zat (k) rfl rfl (rfl) (getm hk1) Tryz.underlying23 rfl sz80 rfl)) ?_;refine Zah [29] [] rfl rfl (fun _ => Zag (ZaE rfl rfl rw80 rfl)) ?_;refine Zah [25, 26, 30] [] rfl rfl (fun _ => Zag (Zas (hmm S[k] (hms _ (List.getElem_mem hk1))) rfl rfl)) ?_;refine dwc 8 rfl rfl rfl ?_;refine dw1 9 rfl rfl ?_;have hrl2 := Nat.le_trans (ZbX (inL l) _) (hrl S[k].id);refine Zal.go (Za6 (acc) (blkF (inL l) (req p S[k].id)) rfl rfl rfl rfl rfl rfl (fun _ => rfl) sl42 (by omega) rfl rfl rfl rfl) ?_;refine Zae ⟨rfl, ?_⟩;refine dw1 10 rfl rfl ?_;refine Zaa.go (Zad rfl rfl) ?_;refine Zae ⟨rfl, ?_⟩;refine dwe ?_;refine Zab ?_;refine Zaa.go (Zac rfl rfl) ?_;refine Zaa.go (Zaz rfl rfl (wrapS (k + 1) (by omega)) rfl) ?_;refine Zaa.go (Zad rfl rfl) ?_;refine Zae ?_;exact ⟨(k + 1, acc ++ blkF (inL l) (req p S[k].id)), ⟨by show k + 1 ≤ _; omega, by show acc ++ blkF (inL l) (req p S[k].id) = (S.take (k + 1)).flatMap (fun x => blk1 p (inL l) x.id); rw [Zbr hk1, ← hA, blk1_in (decide_eq_true h23)], le_step2 hL (Nat.le_trans (ZbX (inL l) _) (hrl S[k].id))⟩, by show S.length - (k + 1) < S.length - k; omega, Zau hF [900, 1] rfl (rfl) ⟨rfl, rfl, rfl, rfl, rfl, trivial⟩⟩
    · refine Zap ?_;refine Zab ?_;refine Zaa.go (Zac rfl rfl) ?_;refine Zaa.go (Zaz rfl rfl (wrapS (k + 1) (by omega)) rfl) ?_;refine Zaa.go (Zad rfl rfl) ?_;refine Zae ?_;exact ⟨(k + 1, acc), ⟨by show k + 1 ≤ _; omega, by show acc = (S.take (k + 1)).flatMap (fun x => blk1 p (inL l) x.id); rw [Zbr hk1, ← hA, blk1_out (by unfold inL; simpa using h23), List.append_nil], le_step hL⟩, by show S.length - (k + 1) < S.length - k; omega, Zau hF [900, 1] rfl (rfl) ⟨rfl, rfl, rfl, rfl, rfl, trivial⟩⟩
  · refine ZaN ?_;refine Zaf ?_;have hfa : acc = S.flatMap (fun x => blk1 p (inL l) x.id) := by rw [hA, List.take_of_length_le (by have h := h14; omega)]
    refine Zbn (emb := bkdD) 5 900 acc rfl rfl rfl rfl rfl rfl rfl ?_;refine Zab ?_;refine Zaa.go (Zac rfl rfl) ?_;refine Zaa.go (Zad rfl rfl) ?_;refine Zae ?_;refine Zar ?_;exact ⟨_, [], [], Zan rfl, rfl, rfl, by rw [hfa], rfl⟩
set_option maxRecDepth 100000 in
theorem adm29_p (p : Prb) (l : List Int) (hv : PV p) (hl : l.length ≤ 100000) : PCalls Tryz.prog 19 [.d (prbD p), .d (.sl none (l.map intD))] (boolD (decide (blks p (inL l) = []))) := by
  have hbk := blocks29_p p l hv hl;refine ZaC Tryz.func19 rfl rfl Tryz.ntmps19 rfl rfl rfl fun F hF => ?_;refine Zaf ?_;refine Zab ?_;refine Zal.go (ZaM 1 rfl rfl rfl rfl rfl rfl rfl) ?_;refine Zaa.go (Zad rfl rfl) ?_;refine Zae ?_;refine Zaf ?_;refine Zab ?_;refine Zaa.go (Zay rfl rfl rw25 rfl rfl rfl) ?_;refine Zaa.go (Zac rfl rfl) ?_;refine Zaa.go (Zas (hbk) rfl rfl) ?_;refine Zaa.go (Zaw rfl Tryz.underlying42 rfl) ?_;refine Zaa.go (ZaZ rfl rfl rfl) ?_;refine Zaa.go (Zad rfl rfl) ?_;refine Zae ?_;refine Zar ?_;exact ⟨_, [], [], Zan rfl, rfl, rfl, retB (by simp [List.length_eq_zero_iff]), rfl⟩
def dsum (p : Prb) (r : Rsc) (l : List Int) : Int := l.foldl (fun s x => s + dltE (itmOf p x) r) 0
theorem dsum_snoc (p : Prb) (r : Rsc) {l : List Int} {k : Nat} (hk : k < l.length) : dsum p r (l.take (k + 1)) = dsum p r (l.take k) + dltE (itmOf p l[k]) r := by
  unfold dsum; rw [List.take_succ_eq_append_getElem hk, List.foldl_append]; rfl
theorem dsum_from (p : Prb) (r : Rsc) : ∀ (l : List Int) (a : Int), l.foldl (fun s x => s + dltE (itmOf p x) r) a = a + vioS p r (setM l)
  | [], a => by simp [vioS, setM]
  | x :: l, a => by
    rw [List.foldl_cons, dsum_from p r l];show _ = a + vioS p r ((x, true) :: setM l);rw [vioS_cons', if_pos rfl]; omega
theorem ZbW (p : Prb) (r : Rsc) (l : List Int) : dsum p r l = vioS p r (setM l) := by unfold dsum; rw [dsum_from]; omega
set_option maxRecDepth 100000 in
theorem viol29_p (p : Prb) (l : List Int) (hv : PV p) (hl : l.length ≤ 1000) (hin : ∀ x ∈ l, x ∈ p.it.map Itm.id) : PCalls Tryz.prog 25 [.d (prbD p), .d (.sl none (l.map intD))] (.sl none ((viol p (setM l)).map rooD)) := by
  have h1 := hv.i;have h2 := hv.r;have hrm := rooms29_p p hv.e (by omega);have hrl := linR_len p.ro;have hmr : ∀ x ∈ linR p.ro, -4000000000000000 ≤ x.n ∧ x.n ≤ 4000000000000000 := fun x hx => rooms_amt (prb_ok hv.e).1 x ((linR_perm p.ro).mem_iff.1 hx);have hvv : viol p (setM l) = (linR p.ro).flatMap fun y => vio1 p (setM l) (toLin p y) := by unfold viol; rw [linL_flat]
  rw [hvv]
  obtain ⟨R, hR⟩ : ∃ R, linR p.ro = R := ⟨_, rfl⟩
  rw [hR] at hrm hrl hmr ⊢;refine ZaC Tryz.func25 rfl rfl Tryz.ntmps25 rfl rfl rfl fun F hF => ?_;refine Zaf ?_;refine Zab ?_;refine Zal.go (ZaM 1 rfl rfl rfl rfl rfl rfl rfl) ?_;refine Zaa.go (Zad rfl rfl) ?_;refine Zae ?_;refine Zaf ?_;refine Zab ?_;refine Zaa.go (Zad rfl rfl) ?_;refine Zae ?_;refine Zaf ?_;refine a_adopt 5 900 sl59 rfl rfl rfl rfl ?_;refine Zab ?_;refine Zaa.go (Zay rfl rfl rw25 rfl rfl rfl) ?_;refine Zaa.go (Zas (hrm) rfl rfl) ?_;refine Zaa.go (Zad rfl rfl) ?_;refine Zae ?_;refine Zaf ?_;refine Zaf ?_;refine Zab ?_;refine Zaa.go (Zad rfl rfl) ?_;refine Zae ?_;refine Zao ?_;refine ZaP (α := Nat × List Roo) (fun q => ⟨72, [(1, .d (.sl none (l.map intD))), (2, (.ptr 1 0 0)), (5, (.own 900 0 q.2.length)), (6, (.d (.sl none (R.map rooD)))), (7, (.d (intD (q.1 : Int))))], [(900, [.rowD 64 7 (q.2.map rooD)]), (1, [prbB2 25 p])]⟩) (fun q => q.1 ≤ R.length ∧ q.2 = (R.take q.1).flatMap (fun y => vio1 p (setM l) (toLin p y)) ∧ q.2.length ≤ q.1) (fun q => R.length - q.1) ((0, [])) (⟨Nat.zero_le _, rfl, Nat.le_refl _⟩) (Zau hF [900, 1] rfl rfl ⟨rfl, rfl, rfl, rfl, rfl, trivial⟩) ?_;rintro ⟨k, acc⟩ ⟨hk0, hA, hL⟩;dsimp only at hk0 hA hL ⊢;refine Zaf ?_;refine Zaf ?_;refine Zab ?_;refine Zaa.go (Zac rfl rfl) ?_;refine Zaa.go (Zac rfl rfl) ?_;refine Zaa.go (Zaw rfl Tryz.underlying22 rfl) ?_;refine Zaa.go (ZaH rfl rfl rfl) ?_;refine Zae ?_;refine ZaD rfl (fun h16 => ?_) (fun h16 => ?_)
  · have hk1 : k < R.length := ZaJ h16;refine Zap ?_;refine Zaf ?_;refine Zao ?_;refine Zaf ?_;have hrn := hmr _ (List.getElem_mem hk1);refine Zab ?_;refine Zaa.go (Zad rfl rfl) ?_;refine Zae ?_;refine Zaf ?_;refine Zaf ?_;refine Zab ?_;refine Zaa.go (Zad rfl rfl) ?_;refine Zae ?_;refine Zao ?_;refine ZaP (α := Nat) (fun n => ⟨72, [(1, .d (.sl none (l.map intD))), (2, (.ptr 1 0 0)), (5, (.own 900 0 acc.length)), (6, (.d (.sl none (R.map rooD)))), (7, (.d (intD (k : Int)))), (8, (.d (intD (dsum p R[k].r (l.take n))))), (9, (.d (intD (n : Int))))], [(900, [.rowD 64 7 (acc.map rooD)]), (1, [prbB2 25 p])]⟩) (fun n => n ≤ l.length) (fun n => l.length - n) (0) (Nat.zero_le _) (Zau hF [900, 1] rfl rfl ⟨rfl, rfl, rfl, rfl, rfl, rfl, rfl, trivial⟩) ?_;rintro n hn0;refine Zaf ?_;refine Zaf ?_;refine Zab ?_;refine Zaa.go (Zac rfl rfl) ?_;refine Zaa.go (Zac rfl rfl) ?_;refine Zaa.go (Zaw rfl Tryz.underlying26 rfl) ?_;refine Zaa.go (ZaH rfl rfl rfl) ?_;refine Zae ?_;refine ZaD rfl (fun h22 => ?_) (fun h22 => ?_)
    · have hn1 : n < l.length := ZaJ h22;refine Zap ?_;refine Zaf ?_;refine Zao ?_;refine ZaV [[], [], [1], [], [], [], [4, 5], [4, 5, 6], [3, 4, 5, 6, 7], [1, 2, 3, 4, 5, 6, 7, 8], [1, 2, 3, 4, 5, 6, 7, 8, 9], [], [], [11, 12], [11, 12, 13], [11, 12, 13, 14], [1, 2, 3, 4, 5, 6, 7, 8, 9, 10, 11, 12, 13, 14, 15], [0, 1, 2, 3, 4, 5, 6, 7, 8, 9, 10, 11, 12, 13, 14, 15, 16], [0, 1, 2, 3, 4, 5, 6, 7, 8, 9, 10, 11, 12, 13, 14, 15, 16, 17]] mixed rfl ?_;refine dws ?_;have hmem : l[n] ∈ p.it.map Itm.id := hin _ (List.getElem_mem hn1);have hix : ixI l[n] (p.it.map Itm.id) = (((p.it.map Itm.id).idxOf l[n] : Nat) : Int) := (itmOf_at hmem).choose_spec.1;have hkx : (p.it.map Itm.id).idxOf l[n] < p.it.length := (itmOf_at hmem).choose;have hit : itmOf p l[n] = p.it[(p.it.map Itm.id).idxOf l[n]] := (itmOf_at hmem).choose_spec.2.1;have hgq := hv.q _ (List.getElem_mem hkx);have hb1 := vioS_b p R[k].r (l := setM (l.take n)) (by unfold setM; rw [List.length_map, List.length_take]; omega);rw [← ZbW] at hb1;have hb2 := dltE_b p.it[(p.it.map Itm.id).idxOf l[n]] R[k].r;refine Zah [8] [] rfl rfl (fun _ => Zag (Zac rfl rfl)) ?_;refine Zah [2] [] rfl rfl (fun _ => Zag (Zai rfl Zbc rfl rfl rfl)) ?_;refine Zav [26] rfl rfl (fun _ => Zag (Zaj rfl rfl rfl on23 rfl)) ?_;refine Zav [2] rfl rfl (fun _ => Zag (Zay rfl rfl rw25 rfl rfl rfl)) ?_;refine Zah [1] [] rfl rfl (fun _ => Zag (Zac rfl rfl)) ?_;refine Zah [9] [] rfl rfl (fun _ => Zag (Zac rfl rfl)) ?_;refine Zah [29, 30] [] rfl rfl (fun _ => Zag (Zat (n) rfl rfl (rfl) (getm hn1) Tryz.underlying26 rfl sz3 rfl)) ?_;refine Zah [31] [] rfl rfl (fun _ => Zag (Zaq rfl rfl on3 rfl)) ?_;refine Zah [28, 32] [] rfl rfl (fun _ => Zag (Zas (find_p p l[n] (by omega)) rfl rfl)) ?_;refine Zah [27, 33] [] rfl rfl (fun _ => Zag (Zat ((p.it.map Itm.id).idxOf l[n]) rfl rfl (hix) (getm hkx) Tryz.underlying23 rfl sz80 rfl)) ?_;refine Zah [34] [] rfl rfl (fun _ => Zag (ZaE rfl rfl rw80 rfl)) ?_;refine Zah [6] [] rfl rfl (fun _ => Zag (Zac rfl rfl)) ?_;refine Zah [7] [] rfl rfl (fun _ => Zag (Zac rfl rfl)) ?_;refine Zah [36, 37] [] rfl rfl (fun _ => Zag (Zat (k) rfl rfl (rfl) (getm hk1) Tryz.underlying22 rfl sz104 rfl)) ?_;refine Zah [38] [] rfl rfl (fun _ => Zag (Za3 rfl fi104_0 rfl rfl rfl)) ?_;refine Zah [39] [] rfl rfl (fun _ => Zag (ZaE rfl rfl rw52 rfl)) ?_;refine Zah [35, 40] [] rfl rfl (fun _ => Zag (Zas (refdelta_p p.it[(p.it.map Itm.id).idxOf l[n]] R[k].r hgq.1 hgq.2.1 hgq.2.2) rfl rfl)) ?_;refine dwc 17 rfl rfl rfl ?_;refine dw1 18 rfl rfl ?_;refine Zaa.go (Zaz rfl rfl (IntWalk.i64_in _ (by omega)) rfl) ?_;refine Zae ⟨rfl, ?_⟩;refine dw1 19 rfl rfl ?_;refine Zaa.go (Zad rfl rfl) ?_;refine Zae ⟨rfl, ?_⟩;refine dwe ?_;refine Zab ?_;refine Zaa.go (Zac rfl rfl) ?_;refine Zaa.go (Zaz rfl rfl (wrapS (n + 1) (by omega)) rfl) ?_;refine Zaa.go (Zad rfl rfl) ?_;refine Zae ?_;exact ⟨n + 1, by show n + 1 ≤ _; omega, by show l.length - (n + 1) < l.length - n; omega, Zau hF [900, 1] rfl rfl ⟨rfl, rfl, rfl, rfl, rfl, by rw [dsum_snoc p R[k].r hn1, hit]; rfl, rfl, trivial⟩⟩
    · have hnl : l.take n = l := List.take_of_length_le (by have h := h22; omega);refine ZaN ?_;refine Zaf ?_;refine Zab ?_;refine Zaa.go (Zac rfl rfl) ?_;refine Zaa.go (Zac rfl rfl) ?_;refine Zaa.go (Zat (k) rfl rfl (rfl) (getm hk1) Tryz.underlying22 rfl sz104 rfl) ?_;refine Zaa.go (ZaX rfl fi104_1 rfl rfl rfl) ?_;refine Zaa.go (Zaq rfl rfl on2 rfl) ?_;refine Zaa.go (Zad rfl rfl) ?_;refine Zae ?_;refine Zaf ?_;refine Zaf ?_;refine Zab ?_;refine Zaa.go (Zac rfl rfl) ?_;refine Zaa.go (ZaH rfl rfl rfl) ?_;refine Zae ?_;refine ZaD rfl (fun h49 => ?_) (fun h49 => ?_)
      · refine Zab ?_;refine Zaa.go (Zad rfl rfl) ?_;refine Zae ?_;refine Zaf ?_;have hb3 := vioS_b p R[k].r (l := setM (l.take n)) (by unfold setM; rw [List.length_map, List.length_take]; omega);rw [← ZbW] at hb3;refine a_as 10 (.d (intD (max R[k].n 0))) rfl (retI (by omega)) ?_;refine Zab ?_;refine Zaa.go (Zac rfl rfl) ?_;refine Zaa.go (ZaH rfl rfl rfl) ?_;refine Zaa.go (Zac rfl rfl) ?_;refine ZaI 52 rfl (fun h52 => ?_) (fun h52 => ?_)
        · refine Zam rfl rfl rfl ?_;refine Zaa.go (Zac rfl rfl) ?_;refine Zam rfl rfl rfl ?_;refine Zaa.go (Zac rfl rfl) ?_;refine Zam rfl rfl rfl ?_;refine Zaa.go (Zaz rfl rfl (IntWalk.i64_in _ (by omega)) rfl) ?_;refine Zam rfl rfl rfl ?_;refine Zaa.go (ZaH rfl rfl rfl) ?_;refine Zaa.go (Zax rfl rfl rfl rfl) ?_;refine Zae ?_;refine ZaD rfl (fun h57 => ?_) (fun h57 => ?_)
          · refine Zab ?_;refine Zaa.go (Zac rfl rfl) ?_;refine Zaa.go (Zac rfl rfl) ?_;refine Zaa.go (Zac rfl rfl) ?_;refine Zaa.go (Zat (k) rfl rfl (rfl) (getm hk1) Tryz.underlying22 rfl sz104 rfl) ?_;refine Zaa.go (Za3 rfl fi104_0 rfl rfl rfl) ?_;refine Zaa.go (ZaE rfl rfl rw52 rfl) ?_;refine Zaa.go (Zac rfl rfl) ?_;refine Zaa.go (st_sub rfl rfl (IntWalk.i64_in _ (by omega)) rfl) ?_;refine Zaa.go (Zac rfl rfl) ?_;refine Zaa.go (st_sub rfl rfl (IntWalk.i64_in _ (by omega)) rfl) ?_;refine Zaa.go (Za4 zl64 pl64 rfl rfl rfl) ?_;refine Zal.go (ZaB 2 sl59 rfl rfl rfl rfl rfl rfl rfl rfl) ?_;refine Zal.go (Za5 (acc) ([⟨R[k].r, 0 - dsum p R[k].r (l.take n) - max R[k].n 0⟩]) rfl rfl rfl rfl rfl rfl rfl rfl sl59 (by simp only [List.length_singleton]; omega) rfl rfl rfl rfl) ?_;refine Zaa.go (Zad rfl rfl) ?_;refine Zae ?_;refine Zab ?_;refine Zaa.go (Zac rfl rfl) ?_;refine Zaa.go (Zaz rfl rfl (wrapS (k + 1) (by omega)) rfl) ?_;refine Zaa.go (Zad rfl rfl) ?_;refine Zae ?_
            first | exact ⟨(k + 1, acc ++ [⟨R[k].r, 0 - dsum p R[k].r (l.take n) - max R[k].n 0⟩]), ⟨by show k + 1 ≤ _; omega, by show acc ++ [_] = (R.take (k + 1)).flatMap (fun y => vio1 p (setM l) (toLin p y)); rw [Zbr hk1, ← hA]; unfold vio1; rw [← ZbW, if_pos (by show max R[k].n 0 + dsum p R[k].r l < 0; rw [← hnl]; omega)]; rw [hnl]; congr 3; show _ = 0 - (max R[k].n 0 + dsum p R[k].r l); omega, by show (acc ++ [_]).length ≤ k + 1; rw [List.length_append]; simp; omega⟩, by show R.length - (k + 1) < R.length - k; omega, Zau hF [900, 1] rfl rfl ⟨rfl, rfl, rfl, rfl, rfl, trivial⟩⟩ | exact ⟨(k + 1, acc), ⟨by show k + 1 ≤ _; omega, by show acc = (R.take (k + 1)).flatMap (fun y => vio1 p (setM l) (toLin p y)); rw [Zbr hk1, ← hA]; unfold vio1; rw [← ZbW, if_neg (by show ¬ max R[k].n 0 + dsum p R[k].r l < 0; rw [← hnl]; omega), List.append_nil], by show acc.length ≤ k + 1; omega⟩, by show R.length - (k + 1) < R.length - k; omega, Zau hF [900, 1] rfl rfl ⟨rfl, rfl, rfl, rfl, rfl, trivial⟩⟩
          · refine Zap ?_;refine Zab ?_;refine Zaa.go (Zac rfl rfl) ?_;refine Zaa.go (Zaz rfl rfl (wrapS (k + 1) (by omega)) rfl) ?_;refine Zaa.go (Zad rfl rfl) ?_;refine Zae ?_
            first | exact ⟨(k + 1, acc ++ [⟨R[k].r, 0 - dsum p R[k].r (l.take n) - max R[k].n 0⟩]), ⟨by show k + 1 ≤ _; omega, by show acc ++ [_] = (R.take (k + 1)).flatMap (fun y => vio1 p (setM l) (toLin p y)); rw [Zbr hk1, ← hA]; unfold vio1; rw [← ZbW, if_pos (by show max R[k].n 0 + dsum p R[k].r l < 0; rw [← hnl]; omega)]; rw [hnl]; congr 3; show _ = 0 - (max R[k].n 0 + dsum p R[k].r l); omega, by show (acc ++ [_]).length ≤ k + 1; rw [List.length_append]; simp; omega⟩, by show R.length - (k + 1) < R.length - k; omega, Zau hF [900, 1] rfl rfl ⟨rfl, rfl, rfl, rfl, rfl, trivial⟩⟩ | exact ⟨(k + 1, acc), ⟨by show k + 1 ≤ _; omega, by show acc = (R.take (k + 1)).flatMap (fun y => vio1 p (setM l) (toLin p y)); rw [Zbr hk1, ← hA]; unfold vio1; rw [← ZbW, if_neg (by show ¬ max R[k].n 0 + dsum p R[k].r l < 0; rw [← hnl]; omega), List.append_nil], by show acc.length ≤ k + 1; omega⟩, by show R.length - (k + 1) < R.length - k; omega, Zau hF [900, 1] rfl rfl ⟨rfl, rfl, rfl, rfl, rfl, trivial⟩⟩
        · refine Zak rfl rfl rfl rfl ?_;refine Zak rfl rfl rfl rfl ?_;refine Zak rfl rfl rfl rfl ?_;refine Zak rfl rfl rfl rfl ?_;refine Zaa.go (ZaA rfl rfl rfl rfl) ?_;refine Zae ?_;refine Za2 rfl rfl ?_;refine Zap ?_;refine Zab ?_;refine Zaa.go (Zac rfl rfl) ?_;refine Zaa.go (Zaz rfl rfl (wrapS (k + 1) (by omega)) rfl) ?_;refine Zaa.go (Zad rfl rfl) ?_;refine Zae ?_
          first | exact ⟨(k + 1, acc ++ [⟨R[k].r, 0 - dsum p R[k].r (l.take n) - max R[k].n 0⟩]), ⟨by show k + 1 ≤ _; omega, by show acc ++ [_] = (R.take (k + 1)).flatMap (fun y => vio1 p (setM l) (toLin p y)); rw [Zbr hk1, ← hA]; unfold vio1; rw [← ZbW, if_pos (by show max R[k].n 0 + dsum p R[k].r l < 0; rw [← hnl]; omega)]; rw [hnl]; congr 3; show _ = 0 - (max R[k].n 0 + dsum p R[k].r l); omega, by show (acc ++ [_]).length ≤ k + 1; rw [List.length_append]; simp; omega⟩, by show R.length - (k + 1) < R.length - k; omega, Zau hF [900, 1] rfl rfl ⟨rfl, rfl, rfl, rfl, rfl, trivial⟩⟩ | exact ⟨(k + 1, acc), ⟨by show k + 1 ≤ _; omega, by show acc = (R.take (k + 1)).flatMap (fun y => vio1 p (setM l) (toLin p y)); rw [Zbr hk1, ← hA]; unfold vio1; rw [← ZbW, if_neg (by show ¬ max R[k].n 0 + dsum p R[k].r l < 0; rw [← hnl]; omega), List.append_nil], by show acc.length ≤ k + 1; omega⟩, by show R.length - (k + 1) < R.length - k; omega, Zau hF [900, 1] rfl rfl ⟨rfl, rfl, rfl, rfl, rfl, trivial⟩⟩
      · refine Zap ?_;refine Zaf ?_;have hb3 := vioS_b p R[k].r (l := setM (l.take n)) (by unfold setM; rw [List.length_map, List.length_take]; omega);rw [← ZbW] at hb3;refine a_as 10 (.d (intD (max R[k].n 0))) rfl (retI (by omega)) ?_;refine Zab ?_;refine Zaa.go (Zac rfl rfl) ?_;refine Zaa.go (ZaH rfl rfl rfl) ?_;refine Zaa.go (Zac rfl rfl) ?_;refine ZaI 52 rfl (fun h52 => ?_) (fun h52 => ?_)
        · refine Zam rfl rfl rfl ?_;refine Zaa.go (Zac rfl rfl) ?_;refine Zam rfl rfl rfl ?_;refine Zaa.go (Zac rfl rfl) ?_;refine Zam rfl rfl rfl ?_;refine Zaa.go (Zaz rfl rfl (IntWalk.i64_in _ (by omega)) rfl) ?_;refine Zam rfl rfl rfl ?_;refine Zaa.go (ZaH rfl rfl rfl) ?_;refine Zaa.go (Zax rfl rfl rfl rfl) ?_;refine Zae ?_;refine ZaD rfl (fun h57 => ?_) (fun h57 => ?_)
          · refine Zab ?_;refine Zaa.go (Zac rfl rfl) ?_;refine Zaa.go (Zac rfl rfl) ?_;refine Zaa.go (Zac rfl rfl) ?_;refine Zaa.go (Zat (k) rfl rfl (rfl) (getm hk1) Tryz.underlying22 rfl sz104 rfl) ?_;refine Zaa.go (Za3 rfl fi104_0 rfl rfl rfl) ?_;refine Zaa.go (ZaE rfl rfl rw52 rfl) ?_;refine Zaa.go (Zac rfl rfl) ?_;refine Zaa.go (st_sub rfl rfl (IntWalk.i64_in _ (by omega)) rfl) ?_;refine Zaa.go (Zac rfl rfl) ?_;refine Zaa.go (st_sub rfl rfl (IntWalk.i64_in _ (by omega)) rfl) ?_;refine Zaa.go (Za4 zl64 pl64 rfl rfl rfl) ?_;refine Zal.go (ZaB 3 sl59 rfl rfl rfl rfl rfl rfl rfl rfl) ?_;refine Zal.go (Za5 (acc) ([⟨R[k].r, 0 - dsum p R[k].r (l.take n) - max R[k].n 0⟩]) rfl rfl rfl rfl rfl rfl rfl rfl sl59 (by simp only [List.length_singleton]; omega) rfl rfl rfl rfl) ?_;refine Zaa.go (Zad rfl rfl) ?_;refine Zae ?_;refine Zab ?_;refine Zaa.go (Zac rfl rfl) ?_;refine Zaa.go (Zaz rfl rfl (wrapS (k + 1) (by omega)) rfl) ?_;refine Zaa.go (Zad rfl rfl) ?_;refine Zae ?_
            first | exact ⟨(k + 1, acc ++ [⟨R[k].r, 0 - dsum p R[k].r (l.take n) - max R[k].n 0⟩]), ⟨by show k + 1 ≤ _; omega, by show acc ++ [_] = (R.take (k + 1)).flatMap (fun y => vio1 p (setM l) (toLin p y)); rw [Zbr hk1, ← hA]; unfold vio1; rw [← ZbW, if_pos (by show max R[k].n 0 + dsum p R[k].r l < 0; rw [← hnl]; omega)]; rw [hnl]; congr 3; show _ = 0 - (max R[k].n 0 + dsum p R[k].r l); omega, by show (acc ++ [_]).length ≤ k + 1; rw [List.length_append]; simp; omega⟩, by show R.length - (k + 1) < R.length - k; omega, Zau hF [900, 1] rfl rfl ⟨rfl, rfl, rfl, rfl, rfl, trivial⟩⟩ | exact ⟨(k + 1, acc), ⟨by show k + 1 ≤ _; omega, by show acc = (R.take (k + 1)).flatMap (fun y => vio1 p (setM l) (toLin p y)); rw [Zbr hk1, ← hA]; unfold vio1; rw [← ZbW, if_neg (by show ¬ max R[k].n 0 + dsum p R[k].r l < 0; rw [← hnl]; omega), List.append_nil], by show acc.length ≤ k + 1; omega⟩, by show R.length - (k + 1) < R.length - k; omega, Zau hF [900, 1] rfl rfl ⟨rfl, rfl, rfl, rfl, rfl, trivial⟩⟩
          · refine Zap ?_;refine Zab ?_;refine Zaa.go (Zac rfl rfl) ?_;refine Zaa.go (Zaz rfl rfl (wrapS (k + 1) (by omega)) rfl) ?_;refine Zaa.go (Zad rfl rfl) ?_;refine Zae ?_
            first | exact ⟨(k + 1, acc ++ [⟨R[k].r, 0 - dsum p R[k].r (l.take n) - max R[k].n 0⟩]), ⟨by show k + 1 ≤ _; omega, by show acc ++ [_] = (R.take (k + 1)).flatMap (fun y => vio1 p (setM l) (toLin p y)); rw [Zbr hk1, ← hA]; unfold vio1; rw [← ZbW, if_pos (by show max R[k].n 0 + dsum p R[k].r l < 0; rw [← hnl]; omega)]; rw [hnl]; congr 3; show _ = 0 - (max R[k].n 0 + dsum p R[k].r l); omega, by show (acc ++ [_]).length ≤ k + 1; rw [List.length_append]; simp; omega⟩, by show R.length - (k + 1) < R.length - k; omega, Zau hF [900, 1] rfl rfl ⟨rfl, rfl, rfl, rfl, rfl, trivial⟩⟩ | exact ⟨(k + 1, acc), ⟨by show k + 1 ≤ _; omega, by show acc = (R.take (k + 1)).flatMap (fun y => vio1 p (setM l) (toLin p y)); rw [Zbr hk1, ← hA]; unfold vio1; rw [← ZbW, if_neg (by show ¬ max R[k].n 0 + dsum p R[k].r l < 0; rw [← hnl]; omega), List.append_nil], by show acc.length ≤ k + 1; omega⟩, by show R.length - (k + 1) < R.length - k; omega, Zau hF [900, 1] rfl rfl ⟨rfl, rfl, rfl, rfl, rfl, trivial⟩⟩
        · refine Zak rfl rfl rfl rfl ?_;refine Zak rfl rfl rfl rfl ?_;refine Zak rfl rfl rfl rfl ?_;refine Zak rfl rfl rfl rfl ?_;refine Zaa.go (ZaA rfl rfl rfl rfl) ?_;refine Zae ?_;refine Za2 rfl rfl ?_;refine Zap ?_;refine Zab ?_;refine Zaa.go (Zac rfl rfl) ?_;refine Zaa.go (Zaz rfl rfl (wrapS (k + 1) (by omega)) rfl) ?_;refine Zaa.go (Zad rfl rfl) ?_;refine Zae ?_
          first | exact ⟨(k + 1, acc ++ [⟨R[k].r, 0 - dsum p R[k].r (l.take n) - max R[k].n 0⟩]), ⟨by show k + 1 ≤ _; omega, by show acc ++ [_] = (R.take (k + 1)).flatMap (fun y => vio1 p (setM l) (toLin p y)); rw [Zbr hk1, ← hA]; unfold vio1; rw [← ZbW, if_pos (by show max R[k].n 0 + dsum p R[k].r l < 0; rw [← hnl]; omega)]; rw [hnl]; congr 3; show _ = 0 - (max R[k].n 0 + dsum p R[k].r l); omega, by show (acc ++ [_]).length ≤ k + 1; rw [List.length_append]; simp; omega⟩, by show R.length - (k + 1) < R.length - k; omega, Zau hF [900, 1] rfl rfl ⟨rfl, rfl, rfl, rfl, rfl, trivial⟩⟩ | exact ⟨(k + 1, acc), ⟨by show k + 1 ≤ _; omega, by show acc = (R.take (k + 1)).flatMap (fun y => vio1 p (setM l) (toLin p y)); rw [Zbr hk1, ← hA]; unfold vio1; rw [← ZbW, if_neg (by show ¬ max R[k].n 0 + dsum p R[k].r l < 0; rw [← hnl]; omega), List.append_nil], by show acc.length ≤ k + 1; omega⟩, by show R.length - (k + 1) < R.length - k; omega, Zau hF [900, 1] rfl rfl ⟨rfl, rfl, rfl, rfl, rfl, trivial⟩⟩
  · refine ZaN ?_;refine Zaf ?_;have hfa : acc = R.flatMap (fun y => vio1 p (setM l) (toLin p y)) := by rw [hA, List.take_of_length_le (by have h := h16; omega)]
    refine Zbn (emb := rooD) 5 900 acc rfl rfl rfl rfl rfl rfl rfl ?_;refine Zab ?_;refine Zaa.go (Zac rfl rfl) ?_;refine Zaa.go (Zad rfl rfl) ?_;refine Zae ?_;refine Zar ?_;exact ⟨_, [], [], Zan rfl, rfl, rfl, by rw [hfa], rfl⟩
set_option maxRecDepth 100000 in
theorem feas29_p (p : Prb) (l : List Int) (hv : PV p) (hl : l.length ≤ 1000) (hin : ∀ x ∈ l, x ∈ p.it.map Itm.id) : PCalls Tryz.prog 20 [.d (prbD p), .d (.sl none (l.map intD))] (boolD (decide (blks p (inL l) = [] ∧ viol p (setM l) = []))) := by
  have hbk := adm29_p p l hv (by omega);have hvk := viol29_p p l hv hl hin;refine ZaC Tryz.func20 rfl rfl Tryz.ntmps20 rfl rfl rfl fun F hF => ?_;refine Zaf ?_;refine Zab ?_;refine Zal.go (ZaM 1 rfl rfl rfl rfl rfl rfl rfl) ?_;refine Zaa.go (Zad rfl rfl) ?_;refine Zae ?_;refine Zaf ?_;refine Zab ?_;refine Zaa.go (Zay rfl rfl rw25 rfl rfl rfl) ?_;refine Zaa.go (Zac rfl rfl) ?_;refine Zaa.go (Zas (hbk) rfl rfl) ?_;refine Zaa.go (Zac rfl rfl) ?_;refine ZaI 8 rfl (fun h8 => ?_) (fun h8 => ?_)
  · refine Zam rfl rfl rfl ?_;refine Zaa.go (Zay rfl rfl rw25 rfl rfl rfl) ?_;refine Zam rfl rfl rfl ?_;refine Zaa.go (Zac rfl rfl) ?_;refine Zam rfl rfl rfl ?_;refine Zaa.go (Zas (hvk) rfl rfl) ?_;refine Zam rfl rfl rfl ?_;refine Zaa.go (Zaw rfl Tryz.underlying59 rfl) ?_;refine Zam rfl rfl rfl ?_;refine Zaa.go (ZaZ rfl rfl rfl) ?_;refine Zaa.go (Zax rfl rfl rfl rfl) ?_;refine Zaa.go (Zad rfl rfl) ?_;refine Zae ?_;refine Zar ?_;exact ⟨_, [], [], Zan rfl, rfl, rfl, by first | exact retF (fun h => by simp_all) | exact retB (by simp_all [List.length_eq_zero_iff]), rfl⟩
  · refine Zak rfl rfl rfl rfl ?_;refine Zak rfl rfl rfl rfl ?_;refine Zak rfl rfl rfl rfl ?_;refine Zak rfl rfl rfl rfl ?_;refine Zak rfl rfl rfl rfl ?_;refine Zaa.go (ZaA rfl rfl rfl rfl) ?_;refine Zaa.go (Zad rfl rfl) ?_;refine Zae ?_;refine Zar ?_;exact ⟨_, [], [], Zan rfl, rfl, rfl, by first | exact retF (fun h => by simp_all) | exact retB (by simp_all [List.length_eq_zero_iff]), rfl⟩
end Go.Proofs.YtnamabifclidmaaGreat
/- Layer 29: problems with few items. -/
namespace Go.Proofs.YtnamabifclidmaaGreat
open Go.RowKit

abbrev u32D (n : Nat) : D := .raw (.int .u32 (n : Int))
structure Sma where
  ids : List Int
  bl : List Nat
  de : List (List Int)
  rm : List Int
abbrev rowZ (l : List Int) : D := .sl none (l.map intD)
abbrev smaD (s : Sma) : D := .agg [.sl none (s.ids.map intD), .sl none (s.bl.map u32D), .sl none (s.de.map rowZ), .sl none (s.rm.map intD)]
def badS (s : Sma) (x : Nat) (i : Nat) : Bool := x.testBit i && decide (anU (s.bl.getD i 0) x ≠ 0)
def admS (s : Sma) (x : Nat) : Bool := !(List.range s.bl.length).any (badS s x)
theorem any_no {n k : Nat} {p : Nat → Bool} (h : ∀ i, i < k → p i = false) (hk : ¬ k < n) : (List.range n).any p = false := by
  rw [List.any_eq_false]; intro i hi; rw [h i (by have := List.mem_range.1 hi; omega)]; simp
theorem any_yes {n k : Nat} {p : Nat → Bool} (hk : k < n) (h : p k = true) : (List.range n).any p = true := List.any_eq_true.2 ⟨k, List.mem_range.2 hk, h⟩
theorem bit_no {a i : Nat} (h : ¬ ((((a >>> i) % 2 : Nat) : Int) = 1)) : a.testBit i = false := by
  cases hh : a.testBit i with
  | false => rfl
  | true => exact absurd ((bit_iff a i).2 hh) h
set_option maxRecDepth 100000 in
theorem admS_p (s : Sma) (x : Nat) (hx : x < 4294967296) (hb : ∀ b ∈ s.bl, b < 4294967296) (hl : s.bl.length ≤ 32) : PCalls Tryz.prog 87 [.d (.ptr (smaD s)), .d (u32D x)] (boolD (admS s x)) := by
  refine ZaC Tryz.func87 rfl rfl Tryz.ntmps87 rfl rfl rfl fun F hF => ?_;refine Zaf ?_;refine Zab ?_;refine Zaa.go (Zad rfl rfl) ?_;refine Zae ?_;refine Zaf ?_;refine Zaf ?_;refine Zab ?_;refine Zaa.go (Zac rfl rfl) ?_
  first | refine Zaa.go (Za0 rfl rfl) ?_ | refine Zaa.go (Zb8 rfl rfl) ?_ | refine Zaa.go (st_nilCheckR rfl rfl) ?_
  first | refine Zaa.go (Zai rfl fi170_1 rfl rfl rfl) ?_ | refine Zaa.go (ZaX rfl fi170_1 rfl rfl rfl) ?_ | refine Zaa.go (Za3 rfl fi170_1 rfl rfl rfl) ?_ | refine Zaa.go (ZbA rfl fi170_1 rfl rfl rfl) ?_
  first | refine Zaa.go (Zaq rfl rfl on166 rfl) ?_ | refine Zaa.go (Zaj rfl rfl rfl on166 rfl) ?_ | refine Zaa.go (ZaF rfl rfl (rfl) rfl on166 rfl) ?_
  first | refine Zaa.go (Zaw rfl Tryz.underlying166 rfl) ?_ | refine Zaa.go (Zbm rfl rfl Tryz.underlying166 rfl) ?_ | refine Zaa.go (Zbl rfl Tryz.underlying166 rfl) ?_ | refine Zaa.go (Zbf rfl Tryz.underlying166 rfl) ?_ | refine Zaa.go (Zbk rfl Tryz.underlying166 rfl) ?_
  refine Zaa.go (Zac rfl rfl) ?_;refine Zae ?_;refine Zao ?_;refine a_loop (α := Nat) (fun k => ⟨29, [(1, .d (u32D x)), (10, (.d (.sl none (s.bl.map u32D)))), (11, (.d (intD (s.bl.length : Int)))), (12, (.d (intD (k : Int))))], []⟩) (fun k => k ≤ s.bl.length ∧ ∀ i, i < k → badS s x i = false) (fun k => s.bl.length - k) (0) (⟨Nat.zero_le _, fun i h => by omega⟩) (ZbB ⟨rfl, rfl, rfl, rfl, trivial⟩) ?_;rintro k ⟨hk0, hk⟩;refine Zaf ?_;refine Zab ?_
  first | refine Zaa.go (ZaH rfl rfl rfl) ?_ | refine Zaa.go (Zbx rfl rfl rfl) ?_
  refine Zae ?_;refine Zaf ?_
  first | refine ZaD rfl (fun h13 => ?_) (fun h13 => ?_) | refine Za9 rfl (fun h13 => ?_) (fun h13 => ?_)
  · have hk1 : k < s.bl.length := ZaJ h13;refine Zap ?_;refine Zaf ?_;refine Zao ?_;refine Zaf ?_;refine Zab ?_;refine Zaa.go (Zac rfl rfl) ?_;have hgd := Zbj 0 hk1;have hbk := hb _ (List.getElem_mem hk1)
    first | refine Zaa.go (Zat (k) rfl rfl (rfl) (getm hk1) Tryz.underlying166 rfl sz65 rfl) ?_ | refine Zaa.go (Zbb (k) rfl rfl (rfl) (getm hk1) rfl Tryz.underlying166 sz65 rfl) ?_
    first | refine Zaa.go (Zaq rfl rfl on65 rfl) ?_ | refine Zaa.go (Zaj rfl rfl rfl on65 rfl) ?_ | refine Zaa.go (ZaF rfl rfl (rfl) rfl on65 rfl) ?_
    refine Zaa.go (Zad rfl rfl) ?_;refine Zaa.go (Zad rfl rfl) ?_;refine Zae ?_;refine Zaf ?_;refine Zab ?_;refine Zaa.go (Zac rfl rfl) ?_;refine Zaa.go (Zac rfl rfl) ?_;refine Zaa.go (st_shr rfl rfl (by omega) (shrU x k (by omega)) rfl) ?_;refine Zaa.go (st_bits rfl rfl rfl (and1U (shr_lt hx k)) rfl) ?_
    first | refine Zaa.go (ZaZ rfl rfl rfl) ?_ | refine Zaa.go (ZaY rfl rfl rfl) ?_ | refine Zaa.go (ZbF rfl rfl rfl) ?_ | refine Zaa.go (ZbL Tryz.underlying65 rfl rfl rfl) ?_ | refine Zaa.go (ZbI Tryz.underlying65 rfl rfl rfl) ?_ | refine Zaa.go (ZbJ Tryz.underlying65 rfl rfl) ?_ | refine Zaa.go (ZbK Tryz.underlying65 rfl rfl rfl) ?_ | refine Zaa.go (ZbD Tryz.underlying65 rfl rfl) ?_
    refine Zaa.go (Zac rfl rfl) ?_
    first | refine ZaI 22 rfl (fun h22 => ?_) (fun h22 => ?_) | refine o_splitB 22 rfl (fun h22 => ?_) (fun h22 => ?_)
    · refine Zam rfl rfl rfl ?_;refine Zaa.go (Zac rfl rfl) ?_;refine Zam rfl rfl rfl ?_;refine Zaa.go (Zac rfl rfl) ?_;refine Zam rfl rfl rfl ?_;refine Zaa.go (st_bits rfl rfl rfl (andNotU s.bl[k] x) rfl) ?_;refine Zam rfl rfl rfl ?_
      first | refine Zaa.go (Za7 rfl rfl rfl) ?_ | refine Zaa.go (Zbo rfl rfl rfl) ?_ | refine Zaa.go (ZbP rfl rfl rfl) ?_ | refine Zaa.go (ZbV Tryz.underlying65 rfl rfl rfl) ?_ | refine Zaa.go (ZbT Tryz.underlying65 rfl rfl rfl) ?_ | refine Zaa.go (st_neqN Tryz.underlying65 rfl rfl) ?_ | refine Zaa.go (ZbU Tryz.underlying65 rfl rfl rfl) ?_ | refine Zaa.go (st_neqFN Tryz.underlying65 rfl rfl) ?_
      refine Zaa.go (Zax rfl rfl rfl rfl) ?_;refine Zae ?_
      first | refine ZaD rfl (fun h27 => ?_) (fun h27 => ?_) | refine Za9 rfl (fun h27 => ?_) (fun h27 => ?_)
      · refine Zaf ?_;refine Zab ?_;refine Zaa.go (Zad rfl rfl) ?_;refine Zae ?_;refine Zar ?_;exact ⟨_, [], [], Zan rfl, rfl, rfl, retB3 (by unfold admS; rw [any_yes hk1 (by unfold badS; rw [hgd, (bit_iff x k).1 h22, Bool.true_and]; exact decide_eq_true (fun h5 => h27 (by rw [h5]; rfl)))]; rfl), rfl⟩
      · refine Zap ?_;refine Zab ?_;have hbad : badS s x k = false := by unfold badS; first | (have h6 : ((anU s.bl[k] x : Nat) : Int) = 0 := Decidable.not_not.1 h27; rw [hgd]; have h3 : anU s.bl[k] x = 0 := Int.ofNat.inj h6; rw [h3]; simp; done) | (rw [bit_no h22]; rfl)
        refine Zaa.go (Zaz rfl rfl (wrapS (k + 1) (by omega)) rfl) ?_;refine Zaa.go (Zac rfl rfl) ?_;refine Zae ?_;exact ⟨k + 1, ⟨by show k + 1 ≤ _; omega, fun i hi => by rcases Nat.lt_or_ge i k with h | h; exact hk i h; have e : i = k := by { omega }; subst e; exact hbad⟩, by show s.bl.length - (k + 1) < s.bl.length - k; omega, ⟨rfl, rfl, fun _ _ => Has.get (l := [(1, _), (10, _), (11, _), (12, _)]) ⟨rfl, rfl, rfl, rfl, trivial⟩⟩⟩
    · refine Zak rfl rfl rfl rfl ?_;refine Zak rfl rfl rfl rfl ?_;refine Zak rfl rfl rfl rfl ?_;refine Zak rfl rfl rfl rfl ?_;refine Zaa.go (ZaA rfl rfl rfl rfl) ?_;refine Zae ?_;refine Za2 rfl rfl ?_;refine Zap ?_;refine Zab ?_;have hbad : badS s x k = false := by unfold badS; first | (have h6 : ((anU s.bl[k] x : Nat) : Int) = 0 := Decidable.not_not.1 h27; rw [hgd]; have h3 : anU s.bl[k] x = 0 := Int.ofNat.inj h6; rw [h3]; simp; done) | (rw [bit_no h22]; rfl)
      refine Zaa.go (Zaz rfl rfl (wrapS (k + 1) (by omega)) rfl) ?_;refine Zaa.go (Zac rfl rfl) ?_;refine Zae ?_;exact ⟨k + 1, ⟨by show k + 1 ≤ _; omega, fun i hi => by rcases Nat.lt_or_ge i k with h | h; exact hk i h; have e : i = k := by { omega }; subst e; exact hbad⟩, by show s.bl.length - (k + 1) < s.bl.length - k; omega, ⟨rfl, rfl, fun _ _ => Has.get (l := [(1, _), (10, _), (11, _), (12, _)]) ⟨rfl, rfl, rfl, rfl, trivial⟩⟩⟩
  · refine ZaN ?_;refine Zaf ?_;refine Zab ?_;refine Zaa.go (Zad rfl rfl) ?_;refine Zae ?_;refine Zar ?_;exact ⟨_, [], [], Zan rfl, rfl, rfl, retB3 (by unfold admS; rw [any_no hk (by have h := h13; omega)]; rfl), rfl⟩
end Go.Proofs.YtnamabifclidmaaGreat
/- Layer 29: problems with few items: feasible sets, lists, the enumeration of sets. -/
namespace Go.Proofs.YtnamabifclidmaaGreat
open Go.RowKit

def rowS (x : Nat) (r : List Int) : Int := ((List.range r.length).map fun i => if x.testBit i = true then r.getD i 0 else 0).sum
def overS (s : Sma) (x : Nat) (k : Nat) : Bool := decide (s.rm.getD k 0 + rowS x (s.de.getD k []) < 0)
def feaS (s : Sma) (x : Nat) : Bool := !(List.range s.rm.length).any (overS s x)
def rowP (x : Nat) (r : List Int) (k : Nat) (a : Int) : Int := (List.range k).foldl (fun c i => c + if x.testBit i = true then r.getD i 0 else 0) a
theorem rowP_eq (x : Nat) (r : List Int) (a : Int) : rowP x r r.length a = a + rowS x r := by
  unfold rowP rowS
  have key : ∀ (l : List Nat) (a : Int), l.foldl (fun c i => c + if x.testBit i = true then r.getD i 0 else 0) a = a + (l.map fun i => if x.testBit i = true then r.getD i 0 else 0).sum := fun l => by
    induction l with
    | nil => intro a; simp
    | cons i l ih => intro a; rw [List.foldl_cons, ih, List.map_cons, List.sum_cons]; omega
  exact key _ _
theorem rowP_snoc (x : Nat) (r : List Int) (k : Nat) (a : Int) : rowP x r (k + 1) a = rowP x r k a + if x.testBit k = true then r.getD k 0 else 0 := by
  unfold rowP; rw [List.range_succ, List.foldl_append]; rfl
theorem rowP_b {x : Nat} {r : List Int} (hr : ∀ v ∈ r, -1000000000000000 ≤ v ∧ v ≤ 1000000000000000) (a : Int) : ∀ k : Nat, k ≤ 1000 → a - k * 1000000000000000 ≤ rowP x r k a ∧ rowP x r k a ≤ a + k * 1000000000000000
  | 0, _ => by unfold rowP; simp
  | k + 1, h => by
    have ih := rowP_b (x := x) hr a k (by omega);rw [rowP_snoc]
    have hv : -1000000000000000 ≤ r.getD k 0 ∧ r.getD k 0 ≤ 1000000000000000 := by
      rw [List.getD_eq_getElem?_getD]
      cases hk : r[k]? with
      | none => simp
      | some v => exact hr v (List.mem_of_getElem? hk)
    split <;> omega
set_option maxRecDepth 100000 in
theorem feaS_p (s : Sma) (x : Nat) (hx : x < 4294967296) (hn : s.rm.length ≤ 100000) (hde : s.de.length = s.rm.length) (hdl : ∀ r ∈ s.de, r.length ≤ 32 ∧ ∀ v ∈ r, -1000000000000000 ≤ v ∧ v ≤ 1000000000000000) (hrm : ∀ v ∈ s.rm, 0 ≤ v ∧ v ≤ 4000000000000000) : PCalls Tryz.prog 61 [.d (.ptr (smaD s)), .d (u32D x)] (boolD (feaS s x)) := by
  refine ZaC Tryz.func61 rfl rfl Tryz.ntmps61 rfl rfl rfl fun F hF => ?_;refine Zaf ?_;refine Zab ?_;refine Zaa.go (Zad rfl rfl) ?_;refine Zae ?_;refine Zaf ?_;refine Zaf ?_;refine Zab ?_;refine Zaa.go (Zac rfl rfl) ?_
  first | refine Zaa.go (Za0 rfl rfl) ?_ | refine Zaa.go (Zb8 rfl rfl) ?_ | refine Zaa.go (st_nilCheckR rfl rfl) ?_
  first | refine Zaa.go (Zai rfl fi170_3 rfl rfl rfl) ?_ | refine Zaa.go (ZaX rfl fi170_3 rfl rfl rfl) ?_ | refine Zaa.go (Za3 rfl fi170_3 rfl rfl rfl) ?_ | refine Zaa.go (ZbA rfl fi170_3 rfl rfl rfl) ?_
  first | refine Zaa.go (Zaq rfl rfl on168 rfl) ?_ | refine Zaa.go (Zaj rfl rfl rfl on168 rfl) ?_ | refine Zaa.go (ZaF rfl rfl (rfl) rfl on168 rfl) ?_
  first | refine Zaa.go (Zaw rfl Tryz.underlying168 rfl) ?_ | refine Zaa.go (Zbm rfl rfl Tryz.underlying168 rfl) ?_ | refine Zaa.go (Zbl rfl Tryz.underlying168 rfl) ?_ | refine Zaa.go (Zbf rfl Tryz.underlying168 rfl) ?_ | refine Zaa.go (Zbk rfl Tryz.underlying168 rfl) ?_
  refine Zaa.go (Zac rfl rfl) ?_;refine Zae ?_;refine Zao ?_;refine a_loop (α := Nat) (fun k => ⟨44, [(0, .d (.ptr (smaD s))), (1, .d (u32D x)), (12, (.d (.sl none (s.rm.map intD)))), (13, (.d (intD (s.rm.length : Int)))), (14, (.d (intD (k : Int))))], []⟩) (fun k => k ≤ s.rm.length ∧ ∀ i, i < k → overS s x i = false) (fun k => s.rm.length - k) (0) (⟨Nat.zero_le _, fun i h => by omega⟩) (ZbB ⟨rfl, rfl, rfl, rfl, rfl, trivial⟩) ?_;rintro k ⟨hk0, hk⟩;refine Zaf ?_;refine Zab ?_
  first | refine Zaa.go (ZaH rfl rfl rfl) ?_ | refine Zaa.go (Zbx rfl rfl rfl) ?_
  refine Zae ?_;refine Zaf ?_
  first | refine ZaD rfl (fun h15 => ?_) (fun h15 => ?_) | refine Za9 rfl (fun h15 => ?_) (fun h15 => ?_)
  · have hk1 : k < s.rm.length := ZaJ h15;refine Zap ?_;refine Zaf ?_;refine Zao ?_;refine Zaf ?_;refine Zab ?_;refine Zaa.go (Zac rfl rfl) ?_;have hkd : k < s.de.length := by omega
    have hgd := Zbj 0 hk1;have hge := Zbj ([] : List Int) hkd;have hrk := hrm _ (List.getElem_mem hk1);have hdk := hdl _ (List.getElem_mem hkd)
    first | refine Zaa.go (Zat (k) rfl rfl (rfl) (getm hk1) Tryz.underlying168 rfl sz2 rfl) ?_ | refine Zaa.go (Zbb (k) rfl rfl (rfl) (getm hk1) rfl Tryz.underlying168 sz2 rfl) ?_
    first | refine Zaa.go (Zaq rfl rfl on2 rfl) ?_ | refine Zaa.go (Zaj rfl rfl rfl on2 rfl) ?_ | refine Zaa.go (ZaF rfl rfl (rfl) rfl on2 rfl) ?_
    refine Zaa.go (Zad rfl rfl) ?_;refine Zaa.go (Zad rfl rfl) ?_;refine Zae ?_;refine Zaf ?_;refine Zaf ?_;refine Zab ?_;refine Zaa.go (Zac rfl rfl) ?_
    first | refine Zaa.go (Za0 rfl rfl) ?_ | refine Zaa.go (Zb8 rfl rfl) ?_ | refine Zaa.go (st_nilCheckR rfl rfl) ?_
    first | refine Zaa.go (Zai rfl fi170_2 rfl rfl rfl) ?_ | refine Zaa.go (ZaX rfl fi170_2 rfl rfl rfl) ?_ | refine Zaa.go (Za3 rfl fi170_2 rfl rfl rfl) ?_ | refine Zaa.go (ZbA rfl fi170_2 rfl rfl rfl) ?_
    first | refine Zaa.go (Zaq rfl rfl on167 rfl) ?_ | refine Zaa.go (Zaj rfl rfl rfl on167 rfl) ?_ | refine Zaa.go (ZaF rfl rfl (rfl) rfl on167 rfl) ?_
    refine Zaa.go (Zac rfl rfl) ?_
    first | refine Zaa.go (Zat (k) rfl rfl (rfl) (getm hkd) Tryz.underlying167 rfl sz168 rfl) ?_ | refine Zaa.go (Zbb (k) rfl rfl (rfl) (getm hkd) rfl Tryz.underlying167 sz168 rfl) ?_
    first | refine Zaa.go (Zaq rfl rfl on168 rfl) ?_ | refine Zaa.go (Zaj rfl rfl rfl on168 rfl) ?_ | refine Zaa.go (ZaF rfl rfl (rfl) rfl on168 rfl) ?_
    first | refine Zaa.go (Zaw rfl Tryz.underlying168 rfl) ?_ | refine Zaa.go (Zbm rfl rfl Tryz.underlying168 rfl) ?_ | refine Zaa.go (Zbl rfl Tryz.underlying168 rfl) ?_ | refine Zaa.go (Zbf rfl Tryz.underlying168 rfl) ?_ | refine Zaa.go (Zbk rfl Tryz.underlying168 rfl) ?_
    refine Zaa.go (Zac rfl rfl) ?_;refine Zae ?_;refine Zao ?_;refine a_loop (α := Nat) (fun j => ⟨44, [(0, .d (.ptr (smaD s))), (1, .d (u32D x)), (6, (.d (intD (rowP x s.de[k] j s.rm[k])))), (12, (.d (.sl none (s.rm.map intD)))), (13, (.d (intD (s.rm.length : Int)))), (14, (.d (intD (k : Int)))), (25, (.d (.sl none (s.de[k].map intD)))), (26, (.d (intD (s.de[k].length : Int)))), (27, (.d (intD (j : Int))))], []⟩) (fun j => j ≤ s.de[k].length) (fun j => s.de[k].length - j) (0) (Nat.zero_le _) (ZbB ⟨rfl, rfl, rfl, rfl, rfl, rfl, rfl, rfl, rfl, trivial⟩) ?_;rintro j hj0;refine Zaf ?_;refine Zab ?_
    first | refine Zaa.go (ZaH rfl rfl rfl) ?_ | refine Zaa.go (Zbx rfl rfl rfl) ?_
    refine Zae ?_;refine Zaf ?_
    first | refine ZaD rfl (fun h28 => ?_) (fun h28 => ?_) | refine Za9 rfl (fun h28 => ?_) (fun h28 => ?_)
    · have hj1 : j < s.de[k].length := ZaJ h28;refine Zap ?_;refine Zaf ?_;refine Zao ?_;refine Zaf ?_;refine Zab ?_;refine Zaa.go (Zac rfl rfl) ?_;have hgj := Zbj 0 hj1;have hpb := rowP_b (x := x) hdk.2 s.rm[k] j (by omega);have hvj := hdk.2 _ (List.getElem_mem hj1)
      first | refine Zaa.go (Zat (j) rfl rfl (rfl) (getm hj1) Tryz.underlying168 rfl sz2 rfl) ?_ | refine Zaa.go (Zbb (j) rfl rfl (rfl) (getm hj1) rfl Tryz.underlying168 sz2 rfl) ?_
      first | refine Zaa.go (Zaq rfl rfl on2 rfl) ?_ | refine Zaa.go (Zaj rfl rfl rfl on2 rfl) ?_ | refine Zaa.go (ZaF rfl rfl (rfl) rfl on2 rfl) ?_
      refine Zaa.go (Zad rfl rfl) ?_;refine Zaa.go (Zad rfl rfl) ?_;refine Zae ?_;refine Zaf ?_;refine Zab ?_;refine Zaa.go (Zac rfl rfl) ?_;refine Zaa.go (Zac rfl rfl) ?_;refine Zaa.go (st_shr rfl rfl (by omega) (shrU x j (by omega)) rfl) ?_;refine Zaa.go (st_bits rfl rfl rfl (and1U (shr_lt hx j)) rfl) ?_
      first | refine Zaa.go (ZaZ rfl rfl rfl) ?_ | refine Zaa.go (ZaY rfl rfl rfl) ?_ | refine Zaa.go (ZbF rfl rfl rfl) ?_ | refine Zaa.go (ZbL Tryz.underlying65 rfl rfl rfl) ?_ | refine Zaa.go (ZbI Tryz.underlying65 rfl rfl rfl) ?_ | refine Zaa.go (ZbJ Tryz.underlying65 rfl rfl) ?_ | refine Zaa.go (ZbK Tryz.underlying65 rfl rfl rfl) ?_ | refine Zaa.go (ZbD Tryz.underlying65 rfl rfl) ?_
      refine Zae ?_
      first | refine ZaD rfl (fun h36 => ?_) (fun h36 => ?_) | refine Za9 rfl (fun h36 => ?_) (fun h36 => ?_)
      · refine Zab ?_;refine Zaa.go (Zac rfl rfl) ?_;refine Zaa.go (Zac rfl rfl) ?_;refine Zaa.go (Zaz rfl rfl (IntWalk.i64_in _ (by omega)) rfl) ?_;refine Zaa.go (Zad rfl rfl) ?_;refine Zae ?_;refine Zab ?_;refine Zaa.go (Zaz rfl rfl (wrapS (j + 1) (by omega)) rfl) ?_;refine Zaa.go (Zac rfl rfl) ?_;refine Zae ?_
        first | exact ⟨j + 1, by show j + 1 ≤ _; omega, by show s.de[k].length - (j + 1) < s.de[k].length - j; omega, ⟨rfl, rfl, fun _ _ => Has.get (l := [(0, _), (1, _), (6, _), (12, _), (13, _), (14, _), (25, _), (26, _), (27, _)]) ⟨rfl, rfl, by rw [rowP_snoc, if_pos ((bit_iff x j).1 h36), hgj]; rfl, rfl, rfl, rfl, rfl, rfl, rfl, trivial⟩⟩⟩ | exact ⟨j + 1, by show j + 1 ≤ _; omega, by show s.de[k].length - (j + 1) < s.de[k].length - j; omega, ⟨rfl, rfl, fun _ _ => Has.get (l := [(0, _), (1, _), (6, _), (12, _), (13, _), (14, _), (25, _), (26, _), (27, _)]) ⟨rfl, rfl, by rw [rowP_snoc, if_neg (by rw [bit_no h36]; decide), Int.add_zero]; rfl, rfl, rfl, rfl, rfl, rfl, rfl, trivial⟩⟩⟩
      · refine Zap ?_;refine Zab ?_;refine Zaa.go (Zaz rfl rfl (wrapS (j + 1) (by omega)) rfl) ?_;refine Zaa.go (Zac rfl rfl) ?_;refine Zae ?_
        first | exact ⟨j + 1, by show j + 1 ≤ _; omega, by show s.de[k].length - (j + 1) < s.de[k].length - j; omega, ⟨rfl, rfl, fun _ _ => Has.get (l := [(0, _), (1, _), (6, _), (12, _), (13, _), (14, _), (25, _), (26, _), (27, _)]) ⟨rfl, rfl, by rw [rowP_snoc, if_pos ((bit_iff x j).1 h36), hgj]; rfl, rfl, rfl, rfl, rfl, rfl, rfl, trivial⟩⟩⟩ | exact ⟨j + 1, by show j + 1 ≤ _; omega, by show s.de[k].length - (j + 1) < s.de[k].length - j; omega, ⟨rfl, rfl, fun _ _ => Has.get (l := [(0, _), (1, _), (6, _), (12, _), (13, _), (14, _), (25, _), (26, _), (27, _)]) ⟨rfl, rfl, by rw [rowP_snoc, if_neg (by rw [bit_no h36]; decide), Int.add_zero]; rfl, rfl, rfl, rfl, rfl, rfl, rfl, trivial⟩⟩⟩
    · have hov1 : rowP x s.de[k] j s.rm[k] = s.rm[k] + rowS x s.de[k] := by have e : j = s.de[k].length := by { have h := h28; omega }; rw [e, rowP_eq]
      refine ZaN ?_;refine Zaf ?_;refine Zab ?_;refine Zaa.go (Zac rfl rfl) ?_
      first | refine Zaa.go (ZaH rfl rfl rfl) ?_ | refine Zaa.go (Zbx rfl rfl rfl) ?_
      refine Zae ?_
      first | refine ZaD rfl (fun h42 => ?_) (fun h42 => ?_) | refine Za9 rfl (fun h42 => ?_) (fun h42 => ?_)
      · refine Zaf ?_;refine Zab ?_;refine Zaa.go (Zad rfl rfl) ?_;refine Zae ?_;refine Zar ?_;exact ⟨_, [], [], Zan rfl, rfl, rfl, retB3 (by unfold feaS; rw [any_yes hk1 (by unfold overS; rw [hgd, hge, ← hov1]; exact decide_eq_true h42)]; rfl), rfl⟩
      · refine Zap ?_;refine Zab ?_;have hov : overS s x k = false := by unfold overS; rw [hgd, hge, ← hov1]; exact decide_eq_false h42
        refine Zaa.go (Zaz rfl rfl (wrapS (k + 1) (by omega)) rfl) ?_;refine Zaa.go (Zac rfl rfl) ?_;refine Zae ?_;exact ⟨k + 1, ⟨by show k + 1 ≤ _; omega, fun i hi => by rcases Nat.lt_or_ge i k with h | h; exact hk i h; have e : i = k := by { omega }; subst e; exact hov⟩, by show s.rm.length - (k + 1) < s.rm.length - k; omega, ⟨rfl, rfl, fun _ _ => Has.get (l := [(0, _), (1, _), (12, _), (13, _), (14, _)]) ⟨rfl, rfl, rfl, rfl, rfl, trivial⟩⟩⟩
  · refine ZaN ?_;refine Zaf ?_;refine Zab ?_;refine Zaa.go (Zad rfl rfl) ?_;refine Zae ?_;refine Zar ?_;exact ⟨_, [], [], Zan rfl, rfl, rfl, retB3 (by unfold feaS; rw [any_no hk (by have h := h15; omega)]; rfl), rfl⟩
def listS (s : Sma) (x : Nat) : List Int := ((List.range s.ids.length).filter fun i => x.testBit i).map fun i => s.ids.getD i 0
theorem listS_snoc (s : Sma) (x k : Nat) : (((List.range (k + 1)).filter fun i => x.testBit i).map fun i => s.ids.getD i 0) = (((List.range k).filter fun i => x.testBit i).map fun i => s.ids.getD i 0) ++ if x.testBit k = true then [s.ids.getD k 0] else [] := by
  rw [List.range_succ, List.filter_append, List.map_append]
  congr 1
  by_cases h : x.testBit k = true
  · rw [if_pos h]; simp [h]
  · rw [if_neg h]; simp [h]
set_option maxRecDepth 100000 in
theorem listS_p (s : Sma) (x : Nat) (hx : x < 4294967296) (hn : s.ids.length ≤ 32) : PCalls Tryz.prog 62 [.d (.ptr (smaD s)), .d (u32D x)] (.sl none ((listS s x).map intD)) := by
  refine ZaC Tryz.func62 rfl rfl Tryz.ntmps62 rfl rfl rfl fun F hF => ?_;refine Zaf ?_;refine Zab ?_;refine Zaa.go (Zad rfl rfl) ?_;refine Zae ?_;refine Zaf ?_;refine Zab ?_;refine Zaa.go (Zad rfl rfl) ?_;refine Zae ?_;refine Zaf ?_;refine Zaf ?_;refine a_adopt 5 900 sl26 rfl rfl rfl rfl ?_;refine Zab ?_;refine Zaa.go (Zac rfl rfl) ?_
  first | refine Zaa.go (Za0 rfl rfl) ?_ | refine Zaa.go (Zb8 rfl rfl) ?_ | refine Zaa.go (st_nilCheckR rfl rfl) ?_
  first | refine Zaa.go (Zai rfl fi170_0 rfl rfl rfl) ?_ | refine Zaa.go (ZaX rfl fi170_0 rfl rfl rfl) ?_ | refine Zaa.go (Za3 rfl fi170_0 rfl rfl rfl) ?_ | refine Zaa.go (ZbA rfl fi170_0 rfl rfl rfl) ?_
  first | refine Zaa.go (Zaq rfl rfl on26 rfl) ?_ | refine Zaa.go (Zaj rfl rfl rfl on26 rfl) ?_ | refine Zaa.go (ZaF rfl rfl (rfl) rfl on26 rfl) ?_
  first | refine Zaa.go (Zaw rfl Tryz.underlying26 rfl) ?_ | refine Zaa.go (Zbm rfl rfl Tryz.underlying26 rfl) ?_ | refine Zaa.go (Zbl rfl Tryz.underlying26 rfl) ?_ | refine Zaa.go (Zbf rfl Tryz.underlying26 rfl) ?_ | refine Zaa.go (Zbk rfl Tryz.underlying26 rfl) ?_
  refine Zaa.go (Zac rfl rfl) ?_;refine Zae ?_;refine Zao ?_;refine ZaP (α := Nat × List Int) (fun q => ⟨29, [(1, .d (u32D x)), (5, (.own 900 0 q.2.length)), (11, (.d (.sl none (s.ids.map intD)))), (12, (.d (intD (s.ids.length : Int)))), (13, (.d (intD (q.1 : Int))))], [(900, [.rowD 3 1 (q.2.map intD)])]⟩) (fun q => q.1 ≤ s.ids.length ∧ q.2 = (((List.range q.1).filter fun i => x.testBit i).map fun i => s.ids.getD i 0) ∧ q.2.length ≤ q.1) (fun q => s.ids.length - q.1) ((0, [])) (⟨Nat.zero_le _, rfl, Nat.le_refl _⟩) (Zau hF [900] rfl rfl ⟨rfl, rfl, rfl, rfl, rfl, trivial⟩) ?_;rintro ⟨k, acc⟩ ⟨hk0, hA, hL⟩;dsimp only at hk0 hA hL ⊢;refine Zaf ?_;refine Zab ?_
  first | refine Zaa.go (ZaH rfl rfl rfl) ?_ | refine Zaa.go (Zbx rfl rfl rfl) ?_
  refine Zae ?_;refine Zaf ?_
  first | refine ZaD rfl (fun h14 => ?_) (fun h14 => ?_) | refine Za9 rfl (fun h14 => ?_) (fun h14 => ?_)
  · have hk1 : k < s.ids.length := ZaJ h14;refine Zap ?_;refine Zaf ?_;refine Zao ?_;refine Zaf ?_;refine Zab ?_;refine Zaa.go (Zac rfl rfl) ?_;have hgd := Zbj 0 hk1
    first | refine Zaa.go (Zat (k) rfl rfl (rfl) (getm hk1) Tryz.underlying26 rfl sz3 rfl) ?_ | refine Zaa.go (Zbb (k) rfl rfl (rfl) (getm hk1) rfl Tryz.underlying26 sz3 rfl) ?_
    first | refine Zaa.go (Zaq rfl rfl on3 rfl) ?_ | refine Zaa.go (Zaj rfl rfl rfl on3 rfl) ?_ | refine Zaa.go (ZaF rfl rfl (rfl) rfl on3 rfl) ?_
    refine Zaa.go (Zad rfl rfl) ?_;refine Zaa.go (Zad rfl rfl) ?_;refine Zae ?_;refine Zaf ?_;refine Zab ?_;refine Zaa.go (Zac rfl rfl) ?_;refine Zaa.go (Zac rfl rfl) ?_;refine Zaa.go (st_shr rfl rfl (by omega) (shrU x k (by omega)) rfl) ?_;refine Zaa.go (st_bits rfl rfl rfl (and1U (shr_lt hx k)) rfl) ?_
    first | refine Zaa.go (ZaZ rfl rfl rfl) ?_ | refine Zaa.go (ZaY rfl rfl rfl) ?_ | refine Zaa.go (ZbF rfl rfl rfl) ?_ | refine Zaa.go (ZbL Tryz.underlying65 rfl rfl rfl) ?_ | refine Zaa.go (ZbI Tryz.underlying65 rfl rfl rfl) ?_ | refine Zaa.go (ZbJ Tryz.underlying65 rfl rfl) ?_ | refine Zaa.go (ZbK Tryz.underlying65 rfl rfl rfl) ?_ | refine Zaa.go (ZbD Tryz.underlying65 rfl rfl) ?_
    refine Zae ?_
    first | refine ZaD rfl (fun h22 => ?_) (fun h22 => ?_) | refine Za9 rfl (fun h22 => ?_) (fun h22 => ?_)
    · refine Zab ?_;refine Zaa.go (Zac rfl rfl) ?_;refine Zaa.go (Zac rfl rfl) ?_;refine Zal.go (ZaB 1 sl26 rfl rfl rfl rfl rfl rfl rfl rfl) ?_
      first | refine Zal.go (Za5 (acc) ([s.ids[k]]) rfl rfl rfl rfl rfl rfl rfl rfl sl26 (by simp only [List.length_singleton]; omega) rfl rfl rfl rfl) ?_ | refine Zal.go (Za6 (acc) ([s.ids[k]]) rfl rfl rfl rfl rfl rfl (fun _ => rfl) sl26 (by simp only [List.length_singleton]; omega) rfl rfl rfl rfl) ?_
      refine Zaa.go (Zad rfl rfl) ?_;refine Zae ?_;refine Zab ?_;refine Zaa.go (Zaz rfl rfl (wrapS (k + 1) (by omega)) rfl) ?_;refine Zaa.go (Zac rfl rfl) ?_;refine Zae ?_;exact ⟨(k + 1, acc ++ [s.ids[k]]), ⟨by show k + 1 ≤ _; omega, by show acc ++ [s.ids[k]] = _; rw [listS_snoc, if_pos ((bit_iff x k).1 h22), hgd, ← hA], by show (acc ++ [s.ids[k]]).length ≤ k + 1; rw [List.length_append]; simp; omega⟩, by show s.ids.length - (k + 1) < s.ids.length - k; omega, Zau hF [900] rfl (rfl) ⟨rfl, rfl, rfl, rfl, rfl, trivial⟩⟩
    · refine Zap ?_;refine Zab ?_;refine Zaa.go (Zaz rfl rfl (wrapS (k + 1) (by omega)) rfl) ?_;refine Zaa.go (Zac rfl rfl) ?_;refine Zae ?_;exact ⟨(k + 1, acc), ⟨by show k + 1 ≤ _; omega, by show acc = _; rw [listS_snoc, if_neg (by rw [bit_no h22]; decide), List.append_nil, ← hA], by show acc.length ≤ k + 1; omega⟩, by show s.ids.length - (k + 1) < s.ids.length - k; omega, Zau hF [900] rfl (rfl) ⟨rfl, rfl, rfl, rfl, rfl, trivial⟩⟩
  · refine ZaN ?_;refine Zaf ?_;have hfa : acc = listS s x := by rw [hA]; have e : k = s.ids.length := by { have h := h14; omega }; rw [e]; rfl
    refine Zbn (emb := intD) 5 900 acc rfl rfl rfl rfl rfl rfl rfl ?_;refine Zab ?_;refine Zaa.go (Zac rfl rfl) ?_;refine Zaa.go (Zad rfl rfl) ?_;refine Zae ?_;refine Zar ?_;exact ⟨_, [], [], Zan rfl, rfl, rfl, by rw [hfa], rfl⟩
end Go.Proofs.YtnamabifclidmaaGreat
/- Layer 29: the enumeration of sets. -/
namespace Go.Proofs.YtnamabifclidmaaGreat
open Go.RowKit

def enumX (n : Nat) : Nat → Nat → Nat → List Nat
  | 0, _, x => [x]
  | l + 1, frm, x => ((List.range (n + 1 - (l + 1) - frm)).map (frm + ·)).flatMap fun i => enumX n l (i + 1) (x ||| 1 <<< i)
section
variable {β : Type} (step : β → Nat → β × Bool)
def feedB : β → List Nat → Bool
  | _, [] => true
  | b, x :: r => match step b x with
    | (b', true) => feedB b' r
    | (_, false) => false
theorem feedB_cons {b : β} {x : Nat} {r : List Nat} : feedB step b (x :: r) = ((step b x).2 && feedB step (step b x).1 r) := by
  simp only [feedB]
  generalize step b x = y
  obtain ⟨y1, y2⟩ := y
  cases y2 <;> rfl
theorem feed_app2 : ∀ (b : β) (l m : List Nat), feed step b (l ++ m) = bif feedB step b l then feed step (feed step b l) m else feed step b l
  | b, [], m => rfl
  | b, x :: l, m => by
    rw [List.cons_append, Zbv, Zbv, feedB_cons]
    by_cases h : (step b x).2 = true
    · rw [if_pos h, if_pos h, h, Bool.true_and]; exact feed_app2 _ l m
    · have h' : (step b x).2 = false := by simpa using h
      rw [if_neg h, if_neg h, h', Bool.false_and]; rfl
theorem feedB_app : ∀ (b : β) (l m : List Nat), feedB step b (l ++ m) = (feedB step b l && feedB step (feed step b l) m)
  | b, [], m => rfl
  | b, x :: l, m => by
    rw [List.cons_append, Zbv, feedB_cons, feedB_cons]
    by_cases h : (step b x).2 = true
    · rw [if_pos h, h, Bool.true_and, Bool.true_and]; exact feedB_app _ l m
    · have h' : (step b x).2 = false := by simpa using h
      rw [h']; rfl
theorem Feeds_app1 {P : Program} {l : Nat} {enc : Nat → List AV} {H : β → Hp} : ∀ {b : β} {r m : List Nat}, Feeds P l enc H step b (r ++ m) → Feeds P l enc H step b r
  | _, [], _, _ => trivial
  | _, _ :: _, _, h => ⟨h.1, fun hg => Feeds_app1 (h.2 hg)⟩
theorem Feeds_app2 {P : Program} {l : Nat} {enc : Nat → List AV} {H : β → Hp} : ∀ {b : β} {r m : List Nat}, Feeds P l enc H step b (r ++ m) → feedB step b r = true → Feeds P l enc H step (feed step b r) m
  | _, [], _, h, _ => h
  | b, x :: r, m, h, hb => by
    rw [feedB_cons] at hb
    by_cases hg : (step b x).2 = true
    · rw [hg, Bool.true_and] at hb;rw [Zbv, if_pos hg];exact Feeds_app2 (h.2 hg) hb
    · have h' : (step b x).2 = false := by simpa using hg
      rw [h'] at hb; cases hb
end
theorem hpIn_mono {nm nm' : List Nat} (h : ∀ f, f ∈ nm → f ∈ nm') : ∀ {H : Hp}, hpIn nm H = true → hpIn nm' H = true := by
  have hm : ∀ f, memB f nm = true → memB f nm' = true := fun f hf => ZaT.2 (h f (ZaT.1 hf))
  have ho : ∀ (l : List AObj), objsIn nm l = true → objsIn nm' l = true := by
    intro l
    induction l with
    | nil => intro _; rfl
    | cons o r ih =>
      intro hr
      cases o with
      | blk t cs =>
        simp only [objsIn, Bool.and_eq_true] at hr ⊢;refine ⟨?_, ih hr.2⟩
        have key : ∀ l : List AV, okC (inNm nm) l = true → okC (inNm nm') l = true := by
          intro l
          induction l with
          | nil => intro _; rfl
          | cons a l ihl =>
            intro hq;simp only [okC, Bool.and_eq_true] at hq ⊢;exact ⟨AV.ok_mono (fun f _ hf => hm f hf) hq.1, ihl hq.2⟩
        exact key _ hr.1
      | row t k xs =>
        simp only [objsIn, Bool.and_eq_true, List.all_eq_true] at hr ⊢;exact ⟨fun x hx => okL_mono (fun f _ hf => hm f hf) (hr.1 x hx), ih hr.2⟩
      | rowD t k xs => simp only [objsIn] at hr ⊢; exact ih hr
      | loop L =>
        simp only [objsIn, Bool.and_eq_true] at hr ⊢;refine ⟨?_, ih hr.2⟩
        have key : ∀ e : List (Nat × AV), okEnv (inNm nm) e = true → okEnv (inNm nm') e = true := by
          intro e
          induction e with
          | nil => intro _; rfl
          | cons q e ihe =>
            obtain ⟨t, a⟩ := q;intro hq;simp only [okEnv, Bool.and_eq_true] at hq ⊢;exact ⟨AV.ok_mono (fun f _ hf => hm f hf) hq.1, ihe hq.2⟩
        exact key _ hr.1
      | map bs es => simp only [objsIn] at hr ⊢; exact ih hr
      | iter f i c seen => simp only [objsIn, Bool.and_eq_true] at hr ⊢; exact ⟨hm _ hr.1, ih hr.2⟩
      | addr f i v => simp only [objsIn, Bool.and_eq_true] at hr ⊢; exact ⟨hm _ hr.1, ih hr.2⟩
      | any => simp only [objsIn] at hr ⊢; exact ih hr
  intro H
  induction H with
  | nil => intro _; rfl
  | cons q r ih =>
    obtain ⟨f, l⟩ := q;intro hh;simp only [hpIn, Bool.and_eq_true] at hh ⊢;exact ⟨ho _ hh.1, ih hh.2⟩
theorem rest?_cons {nm : List Nat} {f : Nat} {x : List AObj} {H : Hp} (hf : memB f nm = false) (hH : rest? nm H = some []) : rest? nm ((f, x) :: H) = some [(f, x)] := by
  simp only [rest?, hH, hf]
end Go.Proofs.YtnamabifclidmaaGreat
/- Layer 29: the enumeration of sets, walked. -/
namespace Go.Proofs.YtnamabifclidmaaGreat
open Go.RowKit

abbrev cS (s : Sma) : AV := .d (.ptr (.ptr (smaD s)))
abbrev cY (l : Nat) : AV := .d (.ptr (.raw (yieldV l)))
abbrev fnX (s : Sma) (l : Nat) : AV := .fn 86 [cS s, cY l, .ptr 980 0 0]
abbrev blkX (s : Sma) (l : Nat) : Nat × List AObj := (980, [.blk 165 [fnX s l]])
abbrev HX (s : Sma) (l : Nat) (h : Hp) : Hp := blkX s l :: h
def encU (x : Nat) : List AV := [.d (u32D x)]
theorem hfam_snoc {f g : Nat} {x : List AObj} (hg : g ≠ f) : ∀ H : Hp, hfam (H ++ [(f, x)]) g = hfam H g
  | [] => by simp only [List.nil_append, hfam, Zba (Ne.symm hg)]
  | (k, y) :: H => by
    simp only [List.cons_append, hfam, hfam_snoc hg H]
theorem hfam_snoc_self {f : Nat} {x : List AObj} : ∀ {H : Hp}, hfam H f = none → hfam (H ++ [(f, x)]) f = some x
  | [], _ => by simp only [List.nil_append, hfam, Nat.beq_refl]
  | (k, y) :: H, h => by
    simp only [hfam] at h;simp only [List.cons_append, hfam]
    cases hk : Nat.beq k f with
    | true => rw [hk] at h; cases h
    | false => rw [hk] at h; exact hfam_snoc_self h
theorem hfam_none {H : Hp} {f : Nat} (h : memB f (hpN H) = false) : hfam H f = none := by
  cases hh : hfam H f with
  | none => rfl
  | some l =>
    have := ZaT.2 (hpN_mem hh);rw [h] at this; cases this
theorem part_snoc {f : Nat} {x : List AObj} {H : Hp} {N : List Nat} (hN : hpN H = N) (hP : part? H N = some H) (hm : memB f N = false) : part? (H ++ [(f, x)]) (f :: N) = some ((f, x) :: H) := by
  have key : ∀ M : List Nat, memB f M = false → part? (H ++ [(f, x)]) M = part? H M := by
    intro M
    induction M with
    | nil => intro _; rfl
    | cons g M ih =>
      intro h;simp only [memB, Bool.or_eq_false_iff] at h
      have hne : g ≠ f := fun e => by
        have := h.1; rw [e] at this
        first | (rw [Nat.beq_refl] at this; cases this) | simp at this
      simp only [part?, ih h.2, hfam_snoc hne]
  have h1 := hfam_snoc_self (x := x) (hfam_none (H := H) (f := f) (by rw [hN]; exact hm));simp only [part?, key N hm, hP, h1]
theorem filter_flat {α β : Type} (p : β → Bool) (f : α → List β) : ∀ l : List α, (l.flatMap f).filter p = l.flatMap fun a => (f a).filter p
  | [] => rfl
  | a :: l => by rw [List.flatMap_cons, List.filter_append, List.flatMap_cons, filter_flat p f l]
theorem keep980 {s : Sma} {l : Nat} {CH : Hp} {N : List Nat} (hm : memB 980 N = false) : keepH? (okRef CH N) [blkX s l] = some [blkX s l] := by
  have h : okRef CH N 980 0 = true := by unfold okRef; rw [hm]; rfl
  simp only [keepH?, keepOs?, keepO?, keepL?, AV.ok, okL, AV.okS, h, Bool.and_true]
theorem fams980 {s : Sma} {l : Nat} {h : Hp} {N : List Nat} (hm : memB 980 N = false) : FamsEq (HX s l h) h N := Zb4 fun g hg => by
  have hne : 980 ≠ g := fun e => by
    have := ZaT.2 hg;rw [← e, hm] at this; cases this
  simp only [hfam, Zba hne]
section
variable {β : Type}
set_option maxRecDepth 100000 in
theorem ext_c (s : Sma) (hbl : ∀ b ∈ s.bl, b < 4294967296) (hbn : s.bl.length ≤ 32) (hn : s.ids.length ≤ 31) (l : Nat) (H : β → Hp) (N : List Nat) (step : β → Nat → β × Bool) (hN : ∀ st, hpN (H st) = N) (hI : ∀ st, hpIn N (H st) = true) (hP : ∀ st, part? (H st) N = some (H st)) (hm : memB 980 N = false) :
    ∀ (left frm x : Nat) (st0 : β), frm ≤ 32 → left ≤ 32 → x < 4294967296 → Feeds Tryz.prog l encU H step st0 ((enumX s.ids.length left frm x).filter (admS s)) →
    ACalls Tryz.prog 86 [.d (u32D x), .d (intD (frm : Int)), .d (intD (left : Int)), cS s, cY l, .ptr 980 0 0] (HX s l (H st0)) fun r H' => r = .d (boolD (feedB step st0 ((enumX s.ids.length left frm x).filter (admS s)))) ∧ H' = HX s l (H (feed step st0 ((enumX s.ids.length left frm x).filter (admS s)))) := by
  have x1 : ∀ st, namesIn (980 :: N) (HX s l (H st)) = true := fun st => by have h := Zbz (HX s l (H st)); rw [show hpN (HX s l (H st)) = 980 :: N from by show 980 :: hpN (H st) = _; rw [hN]] at h; exact h
  have x2 : ∀ st, rest? (980 :: N) (HX s l (H st)) = some [] := fun st => by have h := rest?_all (HX s l (H st)); rw [show hpN (HX s l (H st)) = 980 :: N from by show 980 :: hpN (H st) = _; rw [hN]] at h; exact h
  have x3 : ∀ st, hpIn (980 :: N) (HX s l (H st)) = true := fun st => by
    have h := hpIn_mono (nm := N) (nm' := 980 :: N) (fun f hf => List.mem_cons_of_mem _ hf) (hI st);simp only [hpIn, h, Bool.and_true]; rfl
  have x4 : ∀ st, part? (HX s l (H st)) (980 :: N) = some (HX s l (H st)) := fun st => by
    have h := (partN (x := [.blk 165 [fnX s l]]) hm).trans (hP st);simp only [part?, h]; rfl
  have x5 : ∀ st, namesIn N (H st) = true := fun st => by have h := Zbz (H st); rw [hN] at h; exact h
  have x6 : ∀ st, rest? N (HX s l (H st)) = some [blkX s l] := fun st => rest?_cons hm (by have h := rest?_all (H st); rw [hN] at h; exact h);intro left
  induction left with
  | zero =>
    intro frm x st0 hfr _ hx hfd;have hadm := admS_p s x hx hbl hbn
    cases ha : admS s x with
    | true =>
      have hL : ([x].filter (admS s)) = [x] := by simp [ha]
      rw [show enumX s.ids.length 0 frm x = [x] from rfl, hL] at hfd ⊢;rw [ha] at hadm;have hfb : feedB step st0 [x] = (step st0 x).2 := by rw [feedB_cons]; simp [feedB]
      have hfe : feed step st0 [x] = (step st0 x).1 := by rw [Zbv]; split <;> rfl
      rw [hfb, hfe];refine ZaC Tryz.func86 rfl rfl Tryz.ntmps86 rfl rfl rfl fun F hF => ?_;refine Zaf ?_;refine Zab ?_;refine Zaa.go (Zad rfl rfl) ?_;refine Zae ?_;refine Zaf ?_;refine Zaf ?_;refine Zab ?_;refine Zaa.go (Zac rfl rfl) ?_;refine Zaa.go (ZaZ rfl rfl rfl) ?_;refine Zae ?_;refine ZaQ rfl (rfl) ?_;refine Zaf ?_;refine Zab ?_;refine Zaa.go (Zaq rfl rfl on124 rfl) ?_;refine Zaa.go (Zac rfl rfl) ?_;refine Zaa.go (Zas (hadm) rfl rfl) ?_;refine Zaa.go (ZbE rfl rfl) ?_;refine Zaa.go (Zac rfl rfl) ?_;refine o_setF 17 rfl (rfl) ?_;refine Zam rfl rfl rfl ?_;refine Zaa.go (Zaq rfl rfl on130 rfl) ?_;refine Zam rfl rfl rfl ?_;refine Zaa.go (Zac rfl rfl) ?_;refine o_keep [9, 17, 18, 19] rfl ?_;refine Zam rfl rfl rfl ?_;refine o_yieldX rfl rfl hfd.1 N (fams980 hm) (x5 st0) (x6 st0) rfl (keep980 hm) (fun r H' ⟨e1, e2⟩ => by subst e1 e2; exact ⟨x5 _, hI _, rfl⟩) rfl fun r H' ⟨e1, e2⟩ => ?_; subst e1 e2;refine Zaa.go (ZaA rfl rfl rfl rfl) ?_;refine Zaa.go (Zad rfl rfl) ?_;refine Zae ?_;refine Zar ?_;exact ⟨_, 980 :: N, _, Zan rfl, part_snoc (hN _) (hP _) hm, x1 _, rfl, rfl⟩
    | false =>
      have hL : ([x].filter (admS s)) = [] := by simp [ha]
      rw [show enumX s.ids.length 0 frm x = [x] from rfl, hL] at hfd ⊢;rw [ha] at hadm;refine ZaC Tryz.func86 rfl rfl Tryz.ntmps86 rfl rfl rfl fun F hF => ?_;refine Zaf ?_;refine Zab ?_;refine Zaa.go (Zad rfl rfl) ?_;refine Zae ?_;refine Zaf ?_;refine Zaf ?_;refine Zab ?_;refine Zaa.go (Zac rfl rfl) ?_;refine Zaa.go (ZaZ rfl rfl rfl) ?_;refine Zae ?_;refine ZaQ rfl (rfl) ?_;refine Zaf ?_;refine Zab ?_;refine Zaa.go (Zaq rfl rfl on124 rfl) ?_;refine Zaa.go (Zac rfl rfl) ?_;refine Zaa.go (Zas (hadm) rfl rfl) ?_;refine Zaa.go (ZbE rfl rfl) ?_;refine Zaa.go (Zac rfl rfl) ?_;refine Zbt 17 rfl (rfl) ?_;refine Zak rfl rfl rfl rfl ?_;refine Zak rfl rfl rfl rfl ?_;refine Zak rfl rfl rfl rfl ?_;refine Zaa.go (Zax rfl rfl rfl rfl) ?_;refine Zaa.go (Zad rfl rfl) ?_;refine Zae ?_;refine Zar ?_;exact ⟨_, 980 :: N, _, Zan rfl, x4 _, x1 _, rfl, rfl⟩
  | succ left ih =>
    intro frm x st0 hfr hle hx hfd
    obtain ⟨cnt, hcnt⟩ : ∃ c, s.ids.length + 1 - (left + 1) - frm = c := ⟨_, rfl⟩
    obtain ⟨pos, hpos⟩ : ∃ c, (List.range cnt).map (frm + ·) = c := ⟨_, rfl⟩
    obtain ⟨f, hf⟩ : ∃ g : Nat → List Nat, (fun i => (enumX s.ids.length left (i + 1) (x ||| 1 <<< i)).filter (admS s)) = g := ⟨_, rfl⟩
    have hLL : (enumX s.ids.length (left + 1) frm x).filter (admS s) = pos.flatMap f := by
      show ((((List.range (s.ids.length + 1 - (left + 1) - frm)).map (frm + ·)).flatMap fun i => enumX s.ids.length left (i + 1) (x ||| 1 <<< i))).filter (admS s) = _;rw [filter_flat, hcnt, hpos, hf]
    have hpl : pos.length = cnt := by rw [← hpos]; simp
    have hpk : ∀ k, k < cnt → (pos.drop k).flatMap f = f (frm + k) ++ (pos.drop (k + 1)).flatMap f := fun k hk => by
      have hk' : k < pos.length := by rw [hpl]; exact hk
      rw [List.drop_eq_getElem_cons hk', List.flatMap_cons]
      congr 2
      subst hpos; simp
    have ih' : ∀ (k : Nat) (st : β), frm + k < 32 → Feeds Tryz.prog l encU H step st (f (frm + k)) → ACalls Tryz.prog 86 [.d (u32D (x ||| 1 <<< (frm + k))), .d (intD ((frm + k + 1 : Nat) : Int)), .d (intD (left : Int)), cS s, cY l, .ptr 980 0 0] (HX s l (H st)) fun r H' => r = .d (boolD (feedB step st (f (frm + k)))) ∧ H' = HX s l (H (feed step st (f (frm + k)))) := fun k st h1 h2 => by
      rw [← hf] at h2 ⊢;exact ih (frm + k + 1) (x ||| 1 <<< (frm + k)) st (by omega) (by omega) (or_lt hx (shl_lt h1)) h2
    rw [hLL] at hfd ⊢;refine ZaC Tryz.func86 rfl rfl Tryz.ntmps86 rfl rfl rfl fun F hF => ?_;refine Zaf ?_;refine Zab ?_;refine Zaa.go (Zad rfl rfl) ?_;refine Zae ?_;refine Zaf ?_;refine Zaf ?_;refine Zab ?_;refine Zaa.go (Zac rfl rfl) ?_;refine Zaa.go (ZaZ rfl rfl rfl) ?_;refine Zae ?_;refine Za2 rfl ((decide_eq_false (by omega))) ?_;refine Zap ?_;refine Zaf ?_;refine Zaf ?_;refine Zab ?_;refine Zaa.go (Zac rfl rfl) ?_;refine Zaa.go (Zad rfl rfl) ?_;refine Zae ?_;refine Zao ?_;refine a_loop (α := Nat × β) (fun q => ⟨45, [(0, .d (u32D x)), (2, .d (intD ((left + 1 : Nat) : Int))), (3, cS s), (5, .ptr 980 0 0), (10, (.d (intD ((frm + q.1 : Nat) : Int))))], HX s l (H q.2)⟩) (fun q => q.1 ≤ cnt ∧ Feeds Tryz.prog l encU H step q.2 ((pos.drop q.1).flatMap f) ∧ feed step q.2 ((pos.drop q.1).flatMap f) = feed step st0 (pos.flatMap f) ∧ feedB step q.2 ((pos.drop q.1).flatMap f) = feedB step st0 (pos.flatMap f)) (fun q => cnt - q.1) ((0, st0)) (⟨Nat.zero_le _, hfd, rfl, rfl⟩) (ZbB ⟨rfl, rfl, rfl, rfl, rfl, trivial⟩) ?_;rintro ⟨k, st⟩ ⟨hk0, hfk, hfin, hfb⟩;dsimp only at hk0 hfk hfin hfb ⊢;refine Zaf ?_;refine Zaf ?_;refine Zab ?_;refine Zaa.go (Zac rfl rfl) ?_;refine Zaa.go (Zaq rfl rfl on124 rfl) ?_;refine Zaa.go (Zb8 rfl rfl) ?_;refine Zaa.go (ZaX rfl fi170_0 rfl rfl rfl) ?_;refine Zaa.go (Zaq rfl rfl on26 rfl) ?_;refine Zaa.go (Zaw rfl Tryz.underlying26 rfl) ?_;refine Zaa.go (Zac rfl rfl) ?_;refine Zaa.go (st_sub rfl rfl (IntWalk.i64_in _ (by omega)) rfl) ?_;refine Zaa.go (st_leq rfl rfl rfl) ?_;refine Zae ?_;refine ZaD rfl (fun h31 => ?_) (fun h31 => ?_)
    · have hk1 : k < cnt := by have h := h31; omega
      refine Zap ?_;refine Zaf ?_;refine Zao ?_;refine Zaf ?_;refine ZaV [[], [], [], [2], [1, 2, 3], [], [5], [], [7], [0, 1, 2, 3, 4, 5, 6, 7, 8], [0, 1, 2, 3, 4, 5, 6, 7, 8, 9]] mixed rfl ?_;refine dws ?_;have hA := hpk k hk1;have hfk2 := hfk;rw [hA] at hfk2;have h32 : frm + k < 32 := by omega
      refine Zah [5] [980] rfl rfl (fun _ => Zag (Zaj rfl rfl rfl on165 rfl)) ?_;refine Zah [0] [] rfl rfl (fun _ => Zag (Zac rfl rfl)) ?_;refine Zah [10] [] rfl rfl (fun _ => Zag (Zac rfl rfl)) ?_;refine Zah [36] [] rfl rfl (fun _ => Zag (st_shl rfl rfl (by omega) (shl1U h32) rfl)) ?_;refine Zah [35, 37] [] rfl rfl (fun _ => Zag (st_bits rfl rfl rfl (orU hx (shl_lt h32)) rfl)) ?_;refine Zah [10] [] rfl rfl (fun _ => Zag (Zac rfl rfl)) ?_;refine Zah [39] [] rfl rfl (fun _ => Zag (Zaz rfl rfl (wrapS (frm + k + 1) (by omega)) rfl)) ?_;refine Zah [2] [] rfl rfl (fun _ => Zag (Zac rfl rfl)) ?_;refine Zah [41] [] rfl rfl (fun _ => Zag (st_sub rfl rfl (show IntKind.i64.wrap (((left + 1 : Nat) : Int) - 1) = ((left : Nat) : Int) from by rw [show (((left + 1 : Nat) : Int) - 1) = (left : Int) by omega]; exact wrapS left (by omega)) rfl)) ?_;refine dwc 9 rfl rfl rfl ?_;refine dw1 10 rfl rfl ?_;refine Zal.go (st_callVD (ih' k st h32 (Feeds_app1 step hfk2)) rfl (980 :: N) (Zb4 fun _ _ => rfl) (x1 st) (x2 st) rfl rfl (x1 _) (x3 _) rfl rfl rfl) ?_;rw [List.append_nil];refine Zae ⟨rfl, ?_⟩;refine dw1 11 rfl rfl ?_;refine Zaa.go (ZbE rfl rfl) ?_;refine Zae ⟨rfl, ?_⟩;refine dwe ?_;refine Za9 rfl (fun h44 => ?_) (fun h44 => ?_)
      · have hgo : feedB step st (f (frm + k)) = false := by simpa using h44
        refine Zaf ?_;refine Zab ?_;refine Zaa.go (Zad rfl rfl) ?_;refine Zae ?_;refine Zar ?_;exact ⟨_, 980 :: N, _, Zan rfl, x4 _, x1 _, retB3 (by rw [← hfb, hA, feedB_app, hgo]; rfl), by rw [← hfin, hA, feed_app2, hgo]; rfl⟩
      · have hgo : feedB step st (f (frm + k)) = true := by simpa using h44
        refine Zap ?_;refine Zab ?_;refine Zaa.go (Zac rfl rfl) ?_;refine Zaa.go (Zaz rfl rfl (wrapS (frm + k + 1) (by omega)) rfl) ?_;refine Zaa.go (Zad rfl rfl) ?_;refine Zae ?_;exact ⟨(k + 1, feed step st (f (frm + k))), ⟨by show k + 1 ≤ _; omega, Feeds_app2 step hfk2 hgo, by rw [← hfin, hA, feed_app2, hgo]; rfl, by rw [← hfb, hA, feedB_app, hgo]; rfl⟩, by show cnt - (k + 1) < cnt - k; omega, ⟨rfl, rfl, fun _ _ => Has.get (l := [(0, _), (2, _), (3, _), (5, _), (10, _)]) ⟨rfl, rfl, rfl, rfl, rfl, trivial⟩⟩⟩
    · have hk1 : ¬ k < cnt := by have h := h31; omega
      refine ZaN ?_;refine Zaf ?_;refine Zab ?_;refine Zaa.go (Zad rfl rfl) ?_;refine Zae ?_;refine Zar ?_;exact ⟨_, 980 :: N, _, Zan rfl, x4 _, x1 _, retB3 (by rw [← hfb, List.drop_of_length_le (by omega)]; rfl), by rw [← hfin, List.drop_of_length_le (by omega)]; rfl⟩
def allX (s : Sma) : List Nat := (List.range (s.ids.length + 1)).flatMap fun k => (enumX s.ids.length k 0 0).filter (admS s)
set_option maxRecDepth 100000 in
theorem setsF_c (s : Sma) (hbl : ∀ b ∈ s.bl, b < 4294967296) (hbn : s.bl.length ≤ 32) (hn : s.ids.length ≤ 31) (l : Nat) (H : β → Hp) (N : List Nat) (step : β → Nat → β × Bool) (st0 : β) (hN : ∀ st, hpN (H st) = N) (hI : ∀ st, hpIn N (H st) = true) (hP : ∀ st, part? (H st) N = some (H st)) (hm : memB 980 N = false) (hm2 : memB 981 N = false)
    (hk : ∀ st, killH? 980 (H st) = some (H st)) (hk2 : ∀ st, killH? 981 (H st) = some (H st)) (hfe : Feeds Tryz.prog l encU H step st0 (allX s)) :
    ACalls Tryz.prog 85 [.d (.raw (yieldV l)), cS s] (H st0) fun r H' => r = .tup [] ∧ H' = H (feed step st0 (allX s)) := by
  have hz : ∀ st, hfam (H st) 980 = none := fun st => hfam_none (by rw [hN]; exact hm);have hz2 : ∀ st, hfam (H st) 981 = none := fun st => hfam_none (by rw [hN]; exact hm2);have hext := fun k st => ext_c s hbl hbn hn l H N step hN hI hP hm k 0 0 st (by omega);have x1 : ∀ st, namesIn (980 :: N) (HX s l (H st)) = true := fun st => by have h := Zbz (HX s l (H st)); rw [show hpN (HX s l (H st)) = 980 :: N from by show 980 :: hpN (H st) = _; rw [hN]] at h; exact h
  have x2 : ∀ st, rest? (980 :: N) (HX s l (H st)) = some [] := fun st => by have h := rest?_all (HX s l (H st)); rw [show hpN (HX s l (H st)) = 980 :: N from by show 980 :: hpN (H st) = _; rw [hN]] at h; exact h
  have x3 : ∀ st, hpIn (980 :: N) (HX s l (H st)) = true := fun st => by
    have h := hpIn_mono (nm := N) (nm' := 980 :: N) (fun f hf => List.mem_cons_of_mem _ hf) (hI st);simp only [hpIn, h, Bool.and_true]; rfl
  have x5 : ∀ st, namesIn N (H st) = true := fun st => by have h := Zbz (H st); rw [hN] at h; exact h
  have x8 : ∀ st, part? (HX s l (H st)) N = some (H st) := fun st => (partN hm).trans (hP st)
  obtain ⟨f, hf⟩ : ∃ g : Nat → List Nat, (fun k => (enumX s.ids.length k 0 0).filter (admS s)) = g := ⟨_, rfl⟩
  have hall : allX s = (List.range (s.ids.length + 1)).flatMap f := by unfold allX; rw [hf]
  have hext' : ∀ k st, k ≤ 32 → Feeds Tryz.prog l encU H step st (f k) → ACalls Tryz.prog 86 [.d (u32D 0), .d (intD ((0 : Nat) : Int)), .d (intD (k : Int)), cS s, cY l, .ptr 980 0 0] (HX s l (H st)) fun r H' => r = .d (boolD (feedB step st (f k))) ∧ H' = HX s l (H (feed step st (f k))) := fun k st h1 h2 => by
    rw [← hf] at h2 ⊢;exact hext k st h1 (by omega) h2
  have hrk : ∀ k, k < s.ids.length + 1 → ((List.range (s.ids.length + 1)).drop k).flatMap f = f k ++ ((List.range (s.ids.length + 1)).drop (k + 1)).flatMap f := fun k hk => by
    rw [List.drop_eq_getElem_cons (by simpa using hk), List.flatMap_cons, List.getElem_range]
  rw [hall] at hfe ⊢;refine ZaC Tryz.func85 rfl rfl Tryz.ntmps85 rfl rfl rfl fun F hF => ?_;refine Zaf ?_;refine Zab ?_;refine Zal.go (ZaM 981 rfl rfl rfl rfl (hk2 _) (hnewN (hz2 _)) rfl) ?_;refine Zae ?_;refine Zaf ?_;refine a_freezeB 2 981 (.raw (yieldV l)) N (hF.trans (hN st0)) rfl rfl rfl (by intro c hc; simp [D.cells] at hc; subst hc; rfl) hm2 (subB_refl N) ((partN hm2).trans (hP _)) ?_;refine Zab ?_;refine Zal.go (ZaR 980 zl165 rfl (hk _) (hnewN (hz _)) rfl) ?_;refine Zae ?_;refine Zaf ?_;refine Zab ?_;refine Zaa.go (st_makeFunc rfl rfl) ?_;refine Zal.go (ZaG rfl rfl rfl rfl rfl rfl rfl sz165) ?_;refine Zae ?_;refine Zaf ?_;refine Zab ?_;refine Zaa.go (Zaq rfl rfl on124 rfl) ?_;refine Zaa.go (Zb8 rfl rfl) ?_;refine Zaa.go (ZaX rfl fi170_0 rfl rfl rfl) ?_;refine Zaa.go (Zaq rfl rfl on26 rfl) ?_;refine Zaa.go (Zaw rfl Tryz.underlying26 rfl) ?_;refine Zaa.go (Zaz rfl rfl (wrapS (s.ids.length + 1) (by omega)) rfl) ?_;refine Zaa.go (Zac rfl rfl) ?_;refine Zae ?_;refine Zao ?_;refine a_loop (α := Nat × β) (fun q => ⟨20, [(3, (.ptr 980 0 0)), (11, (.d (intD ((s.ids.length + 1 : Nat) : Int)))), (12, (.d (intD (q.1 : Int))))], HX s l (H q.2)⟩) (fun q => q.1 ≤ s.ids.length + 1 ∧ Feeds Tryz.prog l encU H step q.2 (((List.range (s.ids.length + 1)).drop q.1).flatMap f) ∧ feed step q.2 (((List.range (s.ids.length + 1)).drop q.1).flatMap f) = feed step st0 ((List.range (s.ids.length + 1)).flatMap f)) (fun q => s.ids.length + 1 - q.1) ((0, st0)) (⟨Nat.zero_le _, hfe, rfl⟩) (ZbB ⟨rfl, rfl, rfl, trivial⟩) ?_;rintro ⟨k, st⟩ ⟨hk0, hfk, hfin⟩;dsimp only at hk0 hfk hfin ⊢;refine Zaf ?_;refine Zab ?_;refine Zaa.go (ZaH rfl rfl rfl) ?_;refine Zae ?_;refine Zaf ?_;refine ZaD rfl (fun h13 => ?_) (fun h13 => ?_)
  · have hk1 : k < s.ids.length + 1 := by have h := h13; omega
    refine Zap ?_;refine Zaf ?_;refine Zao ?_;refine Zaf ?_;refine Zab ?_;refine Zaa.go (Zac rfl rfl) ?_;refine Zaa.go (Zad rfl rfl) ?_;refine Zae ?_;refine Zaf ?_;refine Zab ?_;have hA := hrk k hk1;have hfk2 := hfk;rw [hA] at hfk2;refine Zaa.go (Zaj rfl rfl rfl on165 rfl) ?_;refine Zaa.go (Zac rfl rfl) ?_;refine Zal.go (st_callVD (hext' k st (by omega) (Feeds_app1 step hfk2)) rfl (980 :: N) (Zb4 fun _ _ => rfl) (x1 st) (x2 st) rfl rfl (x1 _) (x3 _) rfl rfl rfl) ?_;rw [List.append_nil];refine Zaa.go (ZbE rfl rfl) ?_;refine Zae ?_;refine Za9 rfl (fun h18 => ?_) (fun h18 => ?_)
    · have hgo : feedB step st (f k) = false := by simpa using h18
      refine Zar ?_;exact ⟨_, N, _, Zan rfl, x8 _, x5 _, rfl, by rw [← hfin, hA, feed_app2, hgo]; rfl⟩
    · have hgo : feedB step st (f k) = true := by simpa using h18
      refine Zap ?_;refine Zab ?_;refine Zaa.go (Zaz rfl rfl (wrapS (k + 1) (by omega)) rfl) ?_;refine Zaa.go (Zac rfl rfl) ?_;refine Zae ?_;exact ⟨(k + 1, feed step st (f k)), ⟨by show k + 1 ≤ _; omega, Feeds_app2 step hfk2 hgo, by rw [← hfin, hA, feed_app2, hgo]; rfl⟩, by show s.ids.length + 1 - (k + 1) < s.ids.length + 1 - k; omega, ⟨rfl, rfl, fun _ _ => Has.get (l := [(3, _), (11, _), (12, _)]) ⟨rfl, rfl, rfl, trivial⟩⟩⟩
  · refine ZaN ?_;exact ⟨_, N, _, Zan rfl, x8 _, x5 _, rfl, by rw [← hfin, List.drop_of_length_le (by have h := h13; simp; omega)]; rfl⟩
end
theorem sets_c (s : Sma) : ACalls Tryz.prog 60 [.d (.ptr (smaD s))] [] fun r H' => r = .fn 85 [cS s] ∧ H' = [] := by
  refine ZaC Tryz.func60 rfl rfl Tryz.ntmps60 rfl rfl rfl fun F hF => ?_;refine Zaf ?_;refine Zab ?_;refine Zal.go (ZaM 1 rfl rfl rfl rfl rfl rfl rfl) ?_;refine Zaa.go (Zad rfl rfl) ?_;refine Zae ?_;refine Zaf ?_;refine Zab ?_;refine o_freezeB 1 1 (.ptr (smaD s)) [] hF rfl rfl rfl (by intro c hc; simp [D.cells] at hc; subst hc; rfl) rfl rfl rfl ?_;refine Zaa.go (st_makeFunc rfl rfl) ?_;refine Zaa.go (Zad rfl rfl) ?_;refine Zae ?_;refine Zar ?_;exact ⟨_, [], [], Zan rfl, rfl, rfl, rfl, rfl⟩
end Go.Proofs.YtnamabifclidmaaGreat
/- Layer 29: binary search in a rising list of ints. -/
namespace Go.Proofs.YtnamabifclidmaaGreat
open Go.RowKit

theorem bs_lt {l : List Int} {x : Int} (hs : l.Pairwise (· < ·)) (hx : x ∈ l) {h : Nat} (hh : h < l.length) : l[h] < x ↔ h < l.idxOf x := by
  have hm := List.idxOf_lt_length_of_mem hx;have hg : l[l.idxOf x] = x := List.getElem_idxOf hm;have hp := List.pairwise_iff_getElem.1 hs
  constructor
  · intro hlt;rcases Nat.lt_trichotomy h (l.idxOf x) with h1 | h1 | h1
    · exact h1
    · exfalso
      have : l[h] = x := by rw [← hg]; congr 1
      omega
    · have := hp _ _ hm hh h1;rw [hg] at this; omega
  · intro hlt;have := hp _ _ hh hm hlt;rw [hg] at this; exact this
theorem halfU (n : Nat) : ((n : Nat) : Int).fdiv (2 ^ (min (1 : Int).toNat IntKind.u64.bits)) = ((n / 2 : Nat) : Int) := by
  have h : min (1 : Int).toNat IntKind.u64.bits = 1 := by decide
  rw [h, Int.fdiv_eq_ediv_of_nonneg _ (by decide)]; omega
theorem retBS {i m : Nat} (h : i = m) : AV.d (.tup [intD (i : Int), .raw (.bool true)]) = .d (.tup [intD (m : Int), boolD true]) := by rw [h]
set_option maxRecDepth 100000 in
theorem bsearch_p (l : List Int) (x : Int) (hs : l.Pairwise (· < ·)) (hx : x ∈ l) (hl : l.length ≤ 1000000) : PCalls Tryz.prog 112 [.d (.sl none (l.map intD)), .d (intD x)] (.tup [intD (l.idxOf x : Nat), boolD true]) := by
  have hm := List.idxOf_lt_length_of_mem hx;have hg : l[l.idxOf x] = x := List.getElem_idxOf hm;have hbl := fun {h : Nat} (hh : h < l.length) => bs_lt hs hx hh
  obtain ⟨m, hmE⟩ : ∃ m, l.idxOf x = m := ⟨_, rfl⟩
  simp only [hmE] at hm hg hbl ⊢;refine ZaC Tryz.func112 rfl rfl Tryz.ntmps112 rfl rfl rfl fun F hF => ?_;refine Zaf ?_;refine Zab ?_;refine Zaa.go (Zad rfl rfl) ?_;refine Zaa.go (Zad rfl rfl) ?_;refine Zae ?_;refine Zaf ?_;refine Zab ?_;refine Zaa.go (Zac rfl rfl) ?_
  first | refine Zaa.go (Zaw rfl Tryz.underlying26 rfl) ?_ | refine Zaa.go (Zbm rfl rfl Tryz.underlying26 rfl) ?_ | refine Zaa.go (Zbl rfl Tryz.underlying26 rfl) ?_ | refine Zaa.go (Zbf rfl Tryz.underlying26 rfl) ?_ | refine Zaa.go (Zbk rfl Tryz.underlying26 rfl) ?_
  refine Zaa.go (Zad rfl rfl) ?_;refine Zae ?_;refine Zaf ?_;refine Zab ?_;refine Zaa.go (Zac rfl rfl) ?_;refine Zaa.go (Zad rfl rfl) ?_;refine Zaa.go (Zad rfl rfl) ?_;refine Zae ?_;refine Zaf ?_;refine Zao ?_;refine a_loop (α := Nat × Nat) (fun q => ⟨54, [(0, .d (.sl none (l.map intD))), (1, .d (intD x)), (6, (.d (intD (l.length : Int)))), (7, (.d (intD (q.1 : Int)))), (8, (.d (intD (q.2 : Int))))], []⟩) (fun q => q.1 ≤ m ∧ m ≤ q.2 ∧ q.2 ≤ l.length) (fun q => q.2 - q.1) ((0, l.length)) (⟨Nat.zero_le _, Nat.le_of_lt hm, Nat.le_refl _⟩) (ZbB ⟨rfl, rfl, rfl, rfl, rfl, trivial⟩) ?_;rintro ⟨i, j⟩ ⟨hi, hj, hjl⟩;dsimp only at hi hj hjl ⊢;refine Zaf ?_;refine Zaf ?_;refine Zab ?_;refine Zaa.go (Zac rfl rfl) ?_;refine Zaa.go (Zac rfl rfl) ?_
  first | refine Zaa.go (ZaH rfl rfl rfl) ?_ | refine Zaa.go (Zbx rfl rfl rfl) ?_
  refine Zae ?_
  first | refine ZaD rfl (fun h15 => ?_) (fun h15 => ?_) | refine Za9 rfl (fun h15 => ?_) (fun h15 => ?_)
  · have hij : i < j := ZaJ h15;refine Zap ?_;refine Zao ?_;refine Zaf ?_;refine Zab ?_;refine Zaa.go (Zac rfl rfl) ?_;refine Zaa.go (Zac rfl rfl) ?_;have hh : (i + j) / 2 < l.length := by omega
    have hcU : IntKind.u64.wrap ((i : Int) + (j : Int)) = ((i + j : Nat) : Int) := (IntWalk.u64_in _ (by omega)).trans (Int.natCast_add i j).symm;refine Zaa.go (Zaz rfl rfl (IntWalk.i64_in _ (by omega)) rfl) ?_;refine Zaa.go (st_conv rfl Tryz.underlying3 Tryz.underlying190 (hcU) rfl) ?_;refine Zaa.go (st_shr rfl rfl (by omega) (halfU (i + j)) rfl) ?_;refine Zaa.go (st_conv rfl Tryz.underlying190 Tryz.underlying3 (wrapS ((i + j) / 2) (by omega)) rfl) ?_;refine Zaa.go (Zad rfl rfl) ?_;refine Zae ?_;refine Zaf ?_;refine Zab ?_;refine Zaa.go (Zac rfl rfl) ?_;refine Zaa.go (Zac rfl rfl) ?_
    first | refine Zaa.go (Zat ((i + j) / 2) rfl rfl (rfl) (getm hh) Tryz.underlying26 rfl sz3 rfl) ?_ | refine Zaa.go (Zbb ((i + j) / 2) rfl rfl (rfl) (getm hh) rfl Tryz.underlying26 sz3 rfl) ?_
    first | refine Zaa.go (Zaq rfl rfl on3 rfl) ?_ | refine Zaa.go (Zaj rfl rfl rfl on3 rfl) ?_ | refine Zaa.go (ZaF rfl rfl (rfl) rfl on3 rfl) ?_
    refine Zaa.go (Zac rfl rfl) ?_;refine Zaa.go (Zas (less_p l[(i + j) / 2] x) rfl rfl) ?_;refine Zae ?_
    first | refine ZaD rfl (fun h27 => ?_) (fun h27 => ?_) | refine Za9 rfl (fun h27 => ?_) (fun h27 => ?_)
    · refine Zab ?_;refine Zaa.go (Zac rfl rfl) ?_;refine Zaa.go (Zaz rfl rfl (wrapS ((i + j) / 2 + 1) (by omega)) rfl) ?_;refine Zaa.go (Zad rfl rfl) ?_;refine Zae ?_;exact ⟨((i + j) / 2 + 1, j), ⟨by show (i + j) / 2 + 1 ≤ m; have h := (hbl hh).1 h27; omega, hj, hjl⟩, by show j - ((i + j) / 2 + 1) < j - i; omega, ⟨rfl, rfl, fun _ _ => Has.get (l := [(0, _), (1, _), (6, _), (7, _), (8, _)]) ⟨rfl, rfl, rfl, rfl, rfl, trivial⟩⟩⟩
    · refine Zab ?_;refine Zaa.go (Zac rfl rfl) ?_;refine Zaa.go (Zad rfl rfl) ?_;refine Zae ?_;exact ⟨(i, (i + j) / 2), ⟨hi, by show m ≤ (i + j) / 2; exact Nat.le_of_not_lt fun h => h27 ((hbl hh).2 h), by show (i + j) / 2 ≤ l.length; omega⟩, by show (i + j) / 2 - i < j - i; omega, ⟨rfl, rfl, fun _ _ => Has.get (l := [(0, _), (1, _), (6, _), (7, _), (8, _)]) ⟨rfl, rfl, rfl, rfl, rfl, trivial⟩⟩⟩
  · refine ZaN ?_;refine Zaf ?_;have him : i = m := by have h := h15; omega
    have hi1 : i < l.length := by omega
    have hgi : l[i] = x := by rw [← hg]; congr 1
    refine Zab ?_;refine Zaa.go (Zac rfl rfl) ?_;refine Zaa.go (Zac rfl rfl) ?_;refine Zaa.go (Zac rfl rfl) ?_
    first | refine Zaa.go (ZaH rfl rfl rfl) ?_ | refine Zaa.go (Zbx rfl rfl rfl) ?_
    refine Zaa.go (Zac rfl rfl) ?_;refine Zbt 35 rfl ((decide_eq_true (by omega))) ?_;refine Zam rfl rfl rfl ?_;refine Zaa.go (Zac rfl rfl) ?_;refine Zam rfl rfl rfl ?_;refine Zaa.go (Zac rfl rfl) ?_;refine Zam rfl rfl rfl ?_
    first | refine Zaa.go (Zat (i) rfl rfl (rfl) (getm hi1) Tryz.underlying26 rfl sz3 rfl) ?_ | refine Zaa.go (Zbb (i) rfl rfl (rfl) (getm hi1) rfl Tryz.underlying26 sz3 rfl) ?_
    refine Zam rfl rfl rfl ?_
    first | refine Zaa.go (Zaq rfl rfl on3 rfl) ?_ | refine Zaa.go (Zaj rfl rfl rfl on3 rfl) ?_ | refine Zaa.go (ZaF rfl rfl (rfl) rfl on3 rfl) ?_
    refine Zam rfl rfl rfl ?_;refine Zaa.go (Zac rfl rfl) ?_;refine Zam rfl rfl rfl ?_
    first | refine Zaa.go (ZaZ rfl rfl rfl) ?_ | refine Zaa.go (ZaY rfl rfl rfl) ?_ | refine Zaa.go (ZbF rfl rfl rfl) ?_ | refine Zaa.go (ZbL Tryz.underlying3 rfl rfl rfl) ?_ | refine Zaa.go (ZbI Tryz.underlying3 rfl rfl rfl) ?_ | refine Zaa.go (ZbJ Tryz.underlying3 rfl rfl) ?_ | refine Zaa.go (ZbK Tryz.underlying3 rfl rfl rfl) ?_ | refine Zaa.go (ZbD Tryz.underlying3 rfl rfl) ?_
    refine Zam rfl rfl rfl ?_;refine Zaa.go (Zac rfl rfl) ?_;refine Zbt 42 rfl ((decide_eq_true hgi)) ?_;refine Zak rfl rfl rfl rfl ?_;refine Zak rfl rfl rfl rfl ?_;refine Zak rfl rfl rfl rfl ?_;refine Zak rfl rfl rfl rfl ?_;refine Zak rfl rfl rfl rfl ?_;refine Zak rfl rfl rfl rfl ?_;refine Zbi rfl rfl rfl ?_;refine Zbi rfl rfl rfl ?_;refine Zak rfl rfl rfl rfl ?_;refine Zam rfl rfl rfl ?_;refine Zaa.go (Zax rfl rfl rfl rfl) ?_;refine Zaa.go (Zax rfl rfl rfl rfl) ?_;refine Zaa.go (Zad rfl rfl) ?_;refine Zaa.go (Zad rfl rfl) ?_;refine Zae ?_;refine Zar ?_;exact ⟨_, [], [], Zan rfl, rfl, rfl, retBS him, rfl⟩
end Go.Proofs.YtnamabifclidmaaGreat
