/- Layer 28: the reference's order of items; conversion back. -/
import Derived.Test.YtnamabifclidmaaGreatMg18
namespace Go.Proofs.YtnamabifclidmaaGreat
open Go.RowKit

def insO : List Itm → Itm → List Itm
  | [], x => [x]
  | a :: l, x => if ∀ y ∈ a :: l, ordI x y < 0 then x :: a :: l else a :: insO l x
theorem insO_at : ∀ {l : List Itm} {x : Itm} {k : Nat}, k ≤ l.length → (∀ y ∈ l.drop k, ordI x y < 0) → (∀ (_ : 0 < k) y, l[k - 1]? = some y → ¬ ordI x y < 0) → insO l x = (l.take k ++ [x]) ++ l.drop k
  | [], x, 0, _, _, _ => rfl
  | [], x, k + 1, h, _, _ => by simp at h
  | a :: l, x, 0, _, h, _ => by simp only [insO]; rw [if_pos (by simpa using h)]; rfl
  | a :: l, x, k + 1, hk, h, h2 => by
    have hk' : k ≤ l.length := by simpa using hk
    have hl : k < (a :: l).length := Nat.lt_succ_of_le hk';have hn : ¬ ∀ y ∈ a :: l, ordI x y < 0 := fun hall => h2 (by omega) _ (List.getElem?_eq_getElem hl) (hall _ (List.getElem_mem hl));simp only [insO]
    rw [if_neg hn, insO_at (k := k) hk' (by simpa using h) fun h0 y hy => h2 (by omega) y (by
      obtain ⟨m, rfl⟩ : ∃ m, k = m + 1 := ⟨k - 1, by omega⟩
      simpa using hy)]
    simp
def sortO (l : List Itm) : List Itm := l.foldl insO []
theorem insO_len (l : List Itm) (x : Itm) : (insO l x).length = l.length + 1 := by
  induction l with
  | nil => rfl
  | cons a l ih =>
    simp only [insO]; split
    · rfl
    · simp only [List.length_cons, ih]
theorem sortO_snoc (l : List Itm) (x : Itm) : sortO (l ++ [x]) = insO (sortO l) x := by simp [sortO]
theorem sortO_len (l : List Itm) : (sortO l).length = l.length := by
  induction l using snoc_ind with
  | h0 => rfl
  | h1 l x ih => rw [sortO_snoc, insO_len, ih]; simp
set_option maxRecDepth 100000 in
theorem refsorted_p (l : List Itm) (hl : l.length ≤ 1000) : PCalls Tryz.prog 49 [.d (.sl none (l.map itmD))] (.sl none ((sortO l).map itmD)) := by
  refine ZaC Tryz.func49 rfl rfl Tryz.ntmps49 rfl rfl rfl fun F hF => ?_;refine Zaf ?_;refine Zab ?_;refine Zaa.go (Zad rfl rfl) ?_;refine Zae ?_;refine Zaf ?_;refine Zab ?_;refine Zaa.go (Zad rfl rfl) ?_;refine Zae ?_;refine Zaf ?_;refine Zaf ?_;refine a_anyNil 3 rfl ?_;refine Zab ?_;refine Zaa.go (Zad rfl rfl) ?_;refine Zae ?_;refine Zao ?_;refine ZaP (α := Nat × List Itm) (fun q => ⟨49, [(0, .d (.sl none (l.map itmD))), (3, (.d (.sl none (q.2.map itmD)))), (4, (.d (intD (q.1 : Int))))], []⟩) (fun q => q.1 ≤ l.length ∧ q.2 = sortO (l.take q.1)) (fun q => l.length - q.1) ((0, [])) (⟨Nat.zero_le _, rfl⟩) (Zau hF [] rfl rfl ⟨rfl, rfl, rfl, trivial⟩) ?_;rintro ⟨k, out⟩ ⟨hk0, hO⟩;dsimp only at hk0 hO ⊢;refine Zaf ?_;refine Zaf ?_;refine Zab ?_;refine Zaa.go (Zac rfl rfl) ?_;refine Zaa.go (Zac rfl rfl) ?_;refine Zaa.go (Zaw rfl Tryz.underlying23 rfl) ?_;refine Zaa.go (ZaH rfl rfl rfl) ?_;refine Zae ?_;refine ZaD rfl (fun h10 => ?_) (fun h10 => ?_)
  · have hk1 : k < l.length := ZaJ h10;refine Zap ?_;refine Zaf ?_;refine Zao ?_;refine Zaf ?_;have hol : out.length ≤ 1000 := by rw [hO, sortO_len, List.length_take]; omega
    refine Zab ?_;refine Zaa.go (Zac rfl rfl) ?_;refine Zaa.go (Zaw rfl Tryz.underlying23 rfl) ?_;refine Zaa.go (Zad rfl rfl) ?_;refine Zae ?_;refine Zaf ?_;refine Zao ?_;refine ZaP (α := Nat) (fun m => ⟨49, [(0, .d (.sl none (l.map itmD))), (3, (.d (.sl none (out.map itmD)))), (4, (.d (intD (k : Int)))), (5, (.d (intD (m : Int))))], []⟩) (fun m => m ≤ out.length ∧ ∀ y ∈ out.drop m, ordI l[k] y < 0) (fun m => m) (out.length) (⟨Nat.le_refl _, by simp⟩) (Zau hF [] rfl rfl ⟨rfl, rfl, rfl, rfl, trivial⟩) ?_;rintro m ⟨hm0, hm⟩;refine Zaf ?_;refine Zaf ?_;refine ZaV [[], [0], [0, 1], [0, 1, 2], [0, 1, 2], [0, 1, 2, 3, 4], [0, 1, 2, 3, 4, 5], [0, 1, 2], [0, 1, 2], [0, 1, 2, 8], [0, 1, 2, 7, 8, 9], [0, 1, 2, 7, 8, 9, 10], [0, 1, 2, 3, 4, 5, 6, 7, 8, 9, 10, 11], [0, 1, 2, 3, 4, 5, 6, 7, 8, 9, 10, 11, 12]] mixed rfl ?_;refine dw1 1 rfl rfl ?_;refine Zaa.go (Zac rfl rfl) ?_;refine Zae ⟨rfl, ?_⟩;refine dw1 2 rfl rfl ?_;refine Zaa.go (Zbp rfl rfl rfl) ?_;refine Zae ⟨rfl, ?_⟩;refine dw1 3 rfl rfl ?_;refine Zaa.go (Zac rfl rfl) ?_;refine ZaI 17 rfl (fun h17 => ?_) (fun h17 => ?_)
    · refine Zae ⟨rfl, ?_⟩;refine dws ?_
      try have hm1 : m - 1 < out.length := by have h := h17; omega
      refine Zah [0, 17] [] rfl rfl (fun _ => ZaU rfl rfl rfl (Zac rfl rfl)) ?_;refine Zah [4, 17] [] rfl rfl (fun _ => ZaU rfl rfl rfl (Zac rfl rfl)) ?_;refine Zah [18, 19, 17] [] rfl rfl (fun _ => ZaU rfl rfl rfl (Zat (k) rfl rfl (rfl) (getm hk1) Tryz.underlying23 rfl sz80 rfl)) ?_;refine Zah [20, 17] [] rfl rfl (fun _ => ZaU rfl rfl rfl (ZaE rfl rfl rw80 rfl)) ?_;refine Zah [3, 17] [] rfl rfl (fun _ => ZaU rfl rfl rfl (Zac rfl rfl)) ?_;refine Zah [5, 17] [] rfl rfl (fun _ => ZaU rfl rfl rfl (Zac rfl rfl)) ?_;refine Zah [23, 17] [] rfl rfl (fun _ => ZaU rfl rfl rfl (st_sub rfl rfl (show IntKind.i64.wrap ((m : Int) - 1) = ((m - 1 : Nat) : Int) from by rw [show ((m - 1 : Nat) : Int) = (m : Int) - 1 by omega]; exact IntWalk.i64_in _ (by omega)) rfl)) ?_;refine Zah [22, 24, 17] [] rfl rfl (fun _ => ZaU rfl rfl rfl (Zat (m - 1) rfl rfl (rfl) (getm hm1) Tryz.underlying23 rfl sz80 rfl)) ?_;refine Zah [25, 17] [] rfl rfl (fun _ => ZaU rfl rfl rfl (ZaE rfl rfl rw80 rfl)) ?_;refine dwc 12 rfl rfl rfl ?_;refine dw1 13 rfl rfl ?_;refine Zam rfl rfl rfl ?_;refine Zaa.go (Zas (refbefore_p l[k] out[m - 1]) rfl rfl) ?_;refine Zae ⟨rfl, ?_⟩;refine dw1 14 rfl rfl ?_;refine Zaa.go (Zax rfl rfl rfl rfl) ?_;refine Zae ⟨rfl, ?_⟩;refine dwe ?_;refine ZaD rfl (fun h28 => ?_) (fun h28 => ?_)
      · refine Zap ?_;refine Zao ?_;refine Zab ?_;refine Zaa.go (Zac rfl rfl) ?_;refine Zaa.go (st_sub rfl rfl (show IntKind.i64.wrap ((m : Int) - 1) = ((m - 1 : Nat) : Int) from by rw [show ((m - 1 : Nat) : Int) = (m : Int) - 1 by omega]; exact IntWalk.i64_in _ (by omega)) rfl) ?_;refine Zaa.go (Zad rfl rfl) ?_;refine Zae ?_;exact ⟨m - 1, ⟨by show m - 1 ≤ _; omega, by rw [List.drop_eq_getElem_cons hm1]; intro y hy; rcases List.mem_cons.1 hy with hy | hy; rw [hy]; exact h28; exact hm y (by rw [show m - 1 + 1 = m by omega] at hy; exact hy)⟩, by show m - 1 < m; omega, Zau hF [] rfl (rfl) ⟨rfl, rfl, rfl, rfl, trivial⟩⟩
      · refine ZaN ?_;refine Zaf ?_;have hstop : ∀ (h : 0 < m) y, out[m - 1]? = some y → ¬ ordI l[k] y < 0 := by first | (intro h y hy; exact absurd h (by omega)) | (intro h y hy; rw [List.getElem?_eq_getElem hm1] at hy; injection hy with hy; rw [← hy]; exact h28)
        refine Zab ?_;refine Zal.go (ZaB 20 sl23 rfl rfl rfl rfl rfl rfl rfl rfl) ?_;refine Zaa.go (Zac rfl rfl) ?_;refine Zaa.go (Zac rfl rfl) ?_;refine Zaa.go (Zbq (out) (m) rfl rfl rfl (rfl) (by omega) Tryz.underlying23 sz80 (fun _ => rfl) rfl) ?_;refine Zal.go (Za6 (([] : List Itm)) (out.take m) rfl rfl rfl rfl rfl rfl (fun _ => rfl) sl23 (by simp only [List.length_nil, List.length_take]; omega) rfl rfl rfl rfl) ?_;refine Zaa.go (Zad rfl rfl) ?_;refine Zae ?_;refine Zaf ?_;refine Zab ?_;refine Zaa.go (Zac rfl rfl) ?_;refine Zaa.go (Zac rfl rfl) ?_;refine Zaa.go (Zac rfl rfl) ?_;refine Zaa.go (Zat (k) rfl rfl (rfl) (getm hk1) Tryz.underlying23 rfl sz80 rfl) ?_;refine Zaa.go (ZaE rfl rfl rw80 rfl) ?_;refine Zal.go (ZaB 21 sl23 rfl rfl rfl rfl rfl rfl rfl rfl) ?_;refine Zal.go (Za5 (([] ++ out.take m)) ([l[k]]) rfl rfl rfl rfl rfl rfl rfl rfl sl23 (by simp only [List.nil_append, List.length_singleton, List.length_take]; omega) rfl rfl rfl rfl) ?_;refine Zaa.go (Zad rfl rfl) ?_;refine Zae ?_;refine Zab ?_;refine Zaa.go (Zac rfl rfl) ?_;refine Zaa.go (Zac rfl rfl) ?_;refine Zaa.go (Zac rfl rfl) ?_;refine Zaa.go (Zbw (out) (m) rfl rfl rfl (rfl) (by omega) Tryz.underlying23 sz80 (fun _ => rfl) rfl) ?_;refine Zal.go (Za6 ((([] ++ out.take m) ++ [l[k]])) (out.drop m) rfl rfl rfl rfl rfl rfl (fun _ => rfl) sl23 (by simp only [List.nil_append, List.length_append, List.length_singleton, List.length_take, List.length_drop]; omega) rfl rfl rfl rfl) ?_;refine ZbR (emb := itmD) 47 20 ((([] ++ out.take m) ++ [l[k]]) ++ out.drop m) rfl rfl rfl rfl rfl rfl rfl ?_;refine Zaa.go (Zad rfl rfl) ?_;refine Zae ?_;refine Zab ?_;refine Zaa.go (Zac rfl rfl) ?_;refine Zaa.go (Zaz rfl rfl (wrapS (k + 1) (by omega)) rfl) ?_;refine Zaa.go (Zad rfl rfl) ?_;refine Zae ?_;exact ⟨(k + 1, _), ⟨by show k + 1 ≤ _; omega, by show _ = sortO (l.take (k + 1)); rw [List.take_succ_eq_append_getElem hk1, sortO_snoc, ← hO, insO_at hm0 hm hstop]; rfl⟩, by show l.length - (k + 1) < l.length - k; omega, Zau hF [] rfl (rfl) ⟨rfl, rfl, rfl, trivial⟩⟩
    · refine Zae ⟨rfl, ?_⟩;refine dws ?_
      try have hm1 : m - 1 < out.length := by have h := h17; omega
      refine Zah [0, 17] [] rfl rfl (fun _ => ZaS rfl rfl rfl rfl) ?_;refine Zah [4, 17] [] rfl rfl (fun _ => ZaS rfl rfl rfl rfl) ?_;refine Zah [18, 19, 17] [] rfl rfl (fun _ => ZaS rfl rfl rfl rfl) ?_;refine Zah [20, 17] [] rfl rfl (fun _ => ZaS rfl rfl rfl rfl) ?_;refine Zah [3, 17] [] rfl rfl (fun _ => ZaS rfl rfl rfl rfl) ?_;refine Zah [5, 17] [] rfl rfl (fun _ => ZaS rfl rfl rfl rfl) ?_;refine Zah [23, 17] [] rfl rfl (fun _ => ZaS rfl rfl rfl rfl) ?_;refine Zah [22, 24, 17] [] rfl rfl (fun _ => ZaS rfl rfl rfl rfl) ?_;refine Zah [25, 17] [] rfl rfl (fun _ => ZaS rfl rfl rfl rfl) ?_;refine dwc 12 rfl rfl rfl ?_;refine dw1 13 rfl rfl ?_;refine Zak rfl rfl rfl rfl ?_;refine Zae ⟨rfl, ?_⟩;refine dw1 14 rfl rfl ?_;refine Zaa.go (ZaA rfl rfl rfl rfl) ?_;refine Zae ⟨rfl, ?_⟩;refine dwe ?_;refine Za2 rfl rfl ?_;refine ZaN ?_;refine Zaf ?_;have hstop : ∀ (h : 0 < m) y, out[m - 1]? = some y → ¬ ordI l[k] y < 0 := by first | (intro h y hy; exact absurd h (by omega)) | (intro h y hy; rw [List.getElem?_eq_getElem hm1] at hy; injection hy with hy; rw [← hy]; exact h28)
      refine Zab ?_;refine Zal.go (ZaB 20 sl23 rfl rfl rfl rfl rfl rfl rfl rfl) ?_;refine Zaa.go (Zac rfl rfl) ?_;refine Zaa.go (Zac rfl rfl) ?_;refine Zaa.go (Zbq (out) (m) rfl rfl rfl (rfl) (by omega) Tryz.underlying23 sz80 (fun _ => rfl) rfl) ?_;refine Zal.go (Za6 (([] : List Itm)) (out.take m) rfl rfl rfl rfl rfl rfl (fun _ => rfl) sl23 (by simp only [List.length_nil, List.length_take]; omega) rfl rfl rfl rfl) ?_;refine Zaa.go (Zad rfl rfl) ?_;refine Zae ?_;refine Zaf ?_;refine Zab ?_;refine Zaa.go (Zac rfl rfl) ?_;refine Zaa.go (Zac rfl rfl) ?_;refine Zaa.go (Zac rfl rfl) ?_;refine Zaa.go (Zat (k) rfl rfl (rfl) (getm hk1) Tryz.underlying23 rfl sz80 rfl) ?_;refine Zaa.go (ZaE rfl rfl rw80 rfl) ?_;refine Zal.go (ZaB 21 sl23 rfl rfl rfl rfl rfl rfl rfl rfl) ?_;refine Zal.go (Za5 (([] ++ out.take m)) ([l[k]]) rfl rfl rfl rfl rfl rfl rfl rfl sl23 (by simp only [List.nil_append, List.length_singleton, List.length_take]; omega) rfl rfl rfl rfl) ?_;refine Zaa.go (Zad rfl rfl) ?_;refine Zae ?_;refine Zab ?_;refine Zaa.go (Zac rfl rfl) ?_;refine Zaa.go (Zac rfl rfl) ?_;refine Zaa.go (Zac rfl rfl) ?_;refine Zaa.go (Zbw (out) (m) rfl rfl rfl (rfl) (by omega) Tryz.underlying23 sz80 (fun _ => rfl) rfl) ?_;refine Zal.go (Za6 ((([] ++ out.take m) ++ [l[k]])) (out.drop m) rfl rfl rfl rfl rfl rfl (fun _ => rfl) sl23 (by simp only [List.nil_append, List.length_append, List.length_singleton, List.length_take, List.length_drop]; omega) rfl rfl rfl rfl) ?_;refine ZbR (emb := itmD) 47 20 ((([] ++ out.take m) ++ [l[k]]) ++ out.drop m) rfl rfl rfl rfl rfl rfl rfl ?_;refine Zaa.go (Zad rfl rfl) ?_;refine Zae ?_;refine Zab ?_;refine Zaa.go (Zac rfl rfl) ?_;refine Zaa.go (Zaz rfl rfl (wrapS (k + 1) (by omega)) rfl) ?_;refine Zaa.go (Zad rfl rfl) ?_;refine Zae ?_;exact ⟨(k + 1, _), ⟨by show k + 1 ≤ _; omega, by show _ = sortO (l.take (k + 1)); rw [List.take_succ_eq_append_getElem hk1, sortO_snoc, ← hO, insO_at hm0 hm hstop]; rfl⟩, by show l.length - (k + 1) < l.length - k; omega, Zau hF [] rfl (rfl) ⟨rfl, rfl, rfl, trivial⟩⟩
  · refine ZaN ?_;refine Zaf ?_;refine Zab ?_;refine Zaa.go (Zac rfl rfl) ?_;refine Zaa.go (Zad rfl rfl) ?_;refine Zae ?_;refine Zar ?_;exact ⟨_, [], [], Zan rfl, rfl, rfl, by rw [hO, List.take_of_length_le (by have h := h10; omega)], rfl⟩
def qIds (l : List Itm) (r : Rsc) : List Int := (l.filter fun i => decide (dltE i r < 0)).map Itm.id
set_option maxRecDepth 100000 in
theorem refqueue_p (p : Prb) (r : Rsc) (g2 : p.it.length ≤ 1000) (g3 : ∀ i ∈ sortO p.it, i.po.length ≤ 1000 ∧ i.pa.length ≤ 1000 ∧ i.af.length ≤ 1000) : PCalls Tryz.prog 77 [.d (prbD p), .d (rscD r)] (.sl none ((qIds (sortO p.it) r).map intD)) := by
  obtain ⟨S, hS⟩ : ∃ S, sortO p.it = S := ⟨_, rfl⟩
  have hso := refsorted_p p.it g2;have hSl : S.length ≤ 1000 := by rw [← hS, sortO_len]; exact g2
  rw [hS] at hso g3 ⊢;refine ZaC Tryz.func77 rfl rfl Tryz.ntmps77 rfl rfl rfl fun F hF => ?_;refine Zaf ?_;refine Zab ?_;refine Zal.go (ZaM 1 rfl rfl rfl rfl rfl rfl rfl) ?_;refine Zal.go (ZaM 2 rfl rfl rfl rfl rfl rfl rfl) ?_;refine Zaa.go (Zad rfl rfl) ?_;refine Zae ?_;refine Zaf ?_;refine Zab ?_;refine Zaa.go (Zad rfl rfl) ?_;refine Zae ?_;refine Zaf ?_;refine Zab ?_;refine Zaa.go (Zai rfl Zbc rfl rfl rfl) ?_;refine Zaa.go (Zaj rfl rfl rfl on23 rfl) ?_;refine Zaa.go (Zas (hso) rfl rfl) ?_;refine Zaa.go (Zad rfl rfl) ?_;refine Zae ?_;refine Zaf ?_;refine Zaf ?_;refine a_adopt 5 900 sl26 rfl rfl rfl rfl ?_;refine Zab ?_;refine Zaa.go (Zad rfl rfl) ?_;refine Zae ?_;refine Zao ?_;refine ZaP (α := Nat × List Int) (fun q => ⟨33, [(3, (.ptr 2 0 0)), (5, (.own 900 0 q.2.length)), (6, (.d (.sl none (S.map itmD)))), (7, (.d (intD (q.1 : Int))))], [(2, [.blk 52 [.d (intD r.k), .d (strD r.acc.o), .d (intD r.acc.k), .d (strD r.acc.a), .d (strD r.f), .d (strD r.t)]]), (900, [.rowD 3 1 (q.2.map intD)])]⟩) (fun q => q.1 ≤ S.length ∧ q.2 = qIds (S.take q.1) r) (fun q => S.length - q.1) ((0, [])) (⟨Nat.zero_le _, rfl⟩) (Zau hF [2, 900] rfl rfl ⟨rfl, rfl, rfl, rfl, trivial⟩) ?_;rintro ⟨k, acc⟩ ⟨hk0, hA⟩;dsimp only at hk0 hA ⊢;refine Zaf ?_;refine Zaf ?_;refine Zab ?_;refine Zaa.go (Zac rfl rfl) ?_;refine Zaa.go (Zac rfl rfl) ?_;refine Zaa.go (Zaw rfl Tryz.underlying23 rfl) ?_;refine Zaa.go (ZaH rfl rfl rfl) ?_;refine Zae ?_;refine ZaD rfl (fun h14 => ?_) (fun h14 => ?_)
  · have hk1 : k < S.length := ZaJ h14;refine Zap ?_;refine Zaf ?_;refine Zao ?_;refine Zaf ?_;refine ZaV [[], [], [0, 1], [0, 1, 2], [], [0, 1, 2, 3, 4], [0, 1, 2, 3, 4, 5]] mixed rfl ?_;refine dws ?_;have hgi := g3 _ (List.getElem_mem hk1);have hal : acc.length ≤ 1000 := by rw [hA]; unfold qIds; rw [List.length_map]; have := List.length_filter_le (fun i => decide (dltE i r < 0)) (S.take k); rw [List.length_take] at this; omega
    refine Zah [6] [] rfl rfl (fun _ => Zag (Zac rfl rfl)) ?_;refine Zah [7] [] rfl rfl (fun _ => Zag (Zac rfl rfl)) ?_;refine Zah [17, 18] [] rfl rfl (fun _ => Zag (Zat (k) rfl rfl (rfl) (getm hk1) Tryz.underlying23 rfl sz80 rfl)) ?_;refine Zah [19] [] rfl rfl (fun _ => Zag (ZaE rfl rfl rw80 rfl)) ?_;refine Zav [3] rfl rfl (fun _ => Zag (Zay rfl rfl rw52 rfl rfl rfl)) ?_;refine dwc 5 rfl rfl rfl ?_;refine dw1 6 rfl rfl ?_;refine Zaa.go (Zas (refdelta_p S[k] r hgi.1 hgi.2.1 hgi.2.2) rfl rfl) ?_;refine Zae ⟨rfl, ?_⟩;refine dw1 7 rfl rfl ?_;refine Zaa.go (ZaH rfl rfl rfl) ?_;refine Zae ⟨rfl, ?_⟩;refine dwe ?_;refine ZaD rfl (fun h23 => ?_) (fun h23 => ?_)
    · refine Zab ?_;refine Zaa.go (Zac rfl rfl) ?_;refine Zaa.go (Zac rfl rfl) ?_;refine Zaa.go (Zac rfl rfl) ?_;refine Zaa.go (Zat (k) rfl rfl (rfl) (getm hk1) Tryz.underlying23 rfl sz80 rfl) ?_;refine Zaa.go (ZaX rfl fi80_0 rfl rfl rfl) ?_;refine Zaa.go (Zaq rfl rfl on3 rfl) ?_;refine Zal.go (ZaB 3 sl26 rfl rfl rfl rfl rfl rfl rfl rfl) ?_;refine Zal.go (Za5 (acc) ([S[k].id]) rfl rfl rfl rfl rfl rfl rfl rfl sl26 (by simp only [List.length_singleton]; omega) rfl rfl rfl rfl) ?_;refine Zaa.go (Zad rfl rfl) ?_;refine Zae ?_;refine Zab ?_;refine Zaa.go (Zac rfl rfl) ?_;refine Zaa.go (Zaz rfl rfl (wrapS (k + 1) (by omega)) rfl) ?_;refine Zaa.go (Zad rfl rfl) ?_;refine Zae ?_;exact ⟨(k + 1, _), ⟨by show k + 1 ≤ _; omega, by show _ = qIds (S.take (k + 1)) r; unfold qIds; rw [flt_snoc hk1, if_pos (by simpa using h23), List.map_append, hA]; rfl⟩, by show S.length - (k + 1) < S.length - k; omega, Zau hF [2, 900] rfl (rfl) ⟨rfl, rfl, rfl, rfl, trivial⟩⟩
    · refine Zap ?_;refine Zab ?_;refine Zaa.go (Zac rfl rfl) ?_;refine Zaa.go (Zaz rfl rfl (wrapS (k + 1) (by omega)) rfl) ?_;refine Zaa.go (Zad rfl rfl) ?_;refine Zae ?_;exact ⟨(k + 1, _), ⟨by show k + 1 ≤ _; omega, by show _ = qIds (S.take (k + 1)) r; unfold qIds; rw [flt_snoc hk1, if_neg (by simpa using h23), List.append_nil, hA]; rfl⟩, by show S.length - (k + 1) < S.length - k; omega, Zau hF [2, 900] rfl (rfl) ⟨rfl, rfl, rfl, rfl, trivial⟩⟩
  · refine ZaN ?_;refine Zaf ?_;refine Zbn (emb := intD) 5 900 acc rfl rfl rfl rfl rfl rfl rfl ?_;refine Zab ?_;refine Zaa.go (Zac rfl rfl) ?_;refine Zaa.go (Zad rfl rfl) ?_;refine Zae ?_;refine Zar ?_;exact ⟨_, [], [], Zan rfl, rfl, rfl, by rw [hA, List.take_of_length_le (by have h := h14; omega)], rfl⟩
end Go.Proofs.YtnamabifclidmaaGreat

/- Layer 28: a problem's room. -/
namespace Go.Proofs.YtnamabifclidmaaGreat
open Go.RowKit

end Go.Proofs.YtnamabifclidmaaGreat

/- Layer 28: copies of items. -/
namespace Go.Proofs.YtnamabifclidmaaGreat
open Go.RowKit

end Go.Proofs.YtnamabifclidmaaGreat
/- Layer 28: what slices.Values feeds to a loop. -/
namespace Go.Proofs.YtnamabifclidmaaGreat
open Go.RowKit

theorem hnewN {hp : Hp} {f : Nat} {o : AObj} (h : hfam hp f = none) : hnew? hp f o = some ((f, [o]) :: hp) := by simp only [hnew?]; rw [h]
theorem partN {hp : Hp} {f : Nat} {x : List AObj} : ∀ {nm : List Nat}, memB f nm = false → part? ((f, x) :: hp) nm = part? hp nm
  | [], _ => rfl
  | g :: r, h => by
    have h1 : Nat.beq f g = false := by
      cases hb : Nat.beq f g with
      | false => rfl
      | true =>
        have e := Nat.eq_of_beq_eq_true hb;subst e
        simp [memB] at h
    have h2 : memB f r = false := by
      cases hb : memB f r with
      | false => rfl
      | true => simp [memB, hb] at h
    simp only [part?];rw [partN h2];simp only [hfam, h1]
theorem subB_refl (l : List Nat) : subB l l = true := by
  have key : ∀ (l m : List Nat), (∀ x ∈ l, x ∈ m) → subB l m = true := fun l => by
    induction l with
    | nil => intro m _; rfl
    | cons a r ih => intro m h; simp only [subB, Bool.and_eq_true]; exact ⟨ZaT.2 (h a (by simp)), ih m fun x hx => h x (by simp [hx])⟩
  exact key l l fun x hx => hx
theorem Zbv {α β : Type} {step : β → α → β × Bool} {b : β} {x : α} {r : List α} : feed step b (x :: r) = if (step b x).2 = true then feed step (step b x).1 r else (step b x).1 := by
  simp only [feed]
  generalize step b x = y
  obtain ⟨y1, y2⟩ := y
  cases y2 <;> rfl
def encI (x : Itm) : List AV := [.d (itmD x)]
section
variable {β : Type}
set_option maxRecDepth 100000 in
theorem seqV_c (its : List Itm) (hits : its.length ≤ 1000000) (l : Nat) (H : β → Hp) (N : List Nat) (step : β → Itm → β × Bool) (st0 : β) (hN : ∀ st, hpN (H st) = N) (hI : ∀ st, hpIn N (H st) = true) (hP : ∀ st, part? (H st) N = some (H st))
    (hk : ∀ st, killH? 990 (H st) = some (H st)) (hz : ∀ st, hfam (H st) 990 = none) (hm : memB 990 N = false)
    (hfe : Feeds Tryz.prog l encI H step st0 its) :
    ACalls Tryz.prog 162 [.d (.raw (yieldV l)), .d (.ptr (.sl none (its.map itmD)))] (H st0) fun r H' => r = .tup [] ∧ H' = H (feed step st0 its) := by
  refine ZaC Tryz.func162 rfl rfl Tryz.ntmps162 rfl rfl rfl fun F hF => ?_;refine Zaf ?_;refine Zab ?_;refine Zaa.go (Zaq rfl rfl on33 rfl) ?_;refine Zaa.go (Zaw rfl Tryz.underlying33 rfl) ?_;refine Zaa.go (Zac rfl rfl) ?_;refine Zae ?_;refine Zao ?_;refine a_loop (α := Nat × β) (fun p => ⟨16, [(0, .d (.raw (yieldV l))), (5, (.d (.sl none (its.map itmD)))), (6, (.d (intD (its.length : Int)))), (7, (.d (intD (p.1 : Int))))], H p.2⟩) (fun p => p.1 ≤ its.length ∧ Feeds Tryz.prog l encI H step p.2 (its.drop p.1) ∧ feed step p.2 (its.drop p.1) = feed step st0 its) (fun p => its.length - p.1) ((0, st0)) (⟨Nat.zero_le _, hfe, rfl⟩) (ZbB ⟨rfl, rfl, rfl, rfl, trivial⟩) ?_;rintro ⟨k, st⟩ ⟨hk0, hfd, hfin⟩;dsimp only at hk0 hfd hfin ⊢;refine Zaf ?_;refine Zab ?_;refine Zaa.go (ZaH rfl rfl rfl) ?_;refine Zae ?_;refine Zaf ?_;refine ZaD rfl (fun h8 => ?_) (fun h8 => ?_)
  · have hk1 : k < its.length := ZaJ h8;refine Zap ?_;refine Zaf ?_;refine Zao ?_;refine Zaf ?_;refine Zab ?_;have hA : its.drop k = its[k] :: its.drop (k + 1) := List.drop_eq_getElem_cons hk1;rw [hA] at hfd;refine Zaa.go (Zat (k) rfl rfl (rfl) (getm hk1) Tryz.underlying33 rfl sz100 rfl) ?_;refine Zaa.go (ZaE rfl rfl rw100 rfl) ?_;refine Zal.go (ZaR 990 zl100 rfl (hk _) (hnewN (hz _)) rfl) ?_;refine Zal.go (ZaG rfl rfl rfl rfl rfl rfl rfl sz100) ?_;refine Zae ?_;refine Zaf ?_;refine Zab ?_;refine Zaa.go (Zac rfl rfl) ?_;refine Zaa.go (Zay rfl rfl rw100 rfl rfl rfl) ?_;refine o_keep [0, 5, 6, 7, 11, 12] rfl ?_;refine o_only N (hF.trans (hN st0)) (subB_refl N) ((partN hm).trans (hP _)) ?_;refine o_yieldW hfd.1 rfl rfl (by rw [hN, hN]) (by rw [hN]; exact hI _) rfl rfl ?_;refine Zaa.go (ZbE rfl rfl) ?_;refine Zae ?_;refine Za9 rfl (fun h14 => ?_) (fun h14 => ?_)
    · have hgo : (step st its[k]).2 = false := by simpa using h14
      refine Zar ?_;exact ⟨_, N, _, Zan rfl, hP _, by rw [← hN st0]; exact Zbz _, rfl, by rw [← hfin, hA, Zbv, if_neg (by rw [hgo]; decide)]⟩
    · have hgo : (step st its[k]).2 = true := by simpa using h14
      refine Zap ?_;refine Zab ?_;refine Zaa.go (Zaz rfl rfl (wrapS (k + 1) (by omega)) rfl) ?_;refine Zaa.go (Zac rfl rfl) ?_;refine Zae ?_;exact ⟨(k + 1, (step st its[k]).1), ⟨by show k + 1 ≤ _; omega, hfd.2 hgo, by rw [← hfin, hA, Zbv, if_pos hgo]⟩, by show its.length - (k + 1) < its.length - k; omega, ⟨rfl, rfl, fun _ _ => Has.get (l := [(0, _), (5, _), (6, _), (7, _)]) ⟨rfl, rfl, rfl, rfl, trivial⟩⟩⟩
  · refine ZaN ?_;exact ⟨_, N, _, Zan rfl, hP _, by rw [← hN st0]; exact Zbz _, rfl, by rw [← hfin, List.drop_of_length_le (by have h := h8; omega)]; rfl⟩
end
end Go.Proofs.YtnamabifclidmaaGreat

/- Layer 28: the items in order. -/
namespace Go.Proofs.YtnamabifclidmaaGreat
open Go.RowKit

theorem SR.freezeB {F : Fr} {s : AS} {ρ : Nat → Nat → Value} {act : Act} {w : World} (h : SR F s ρ act w) (t f : Nat) (x : D) {T : TypeId} {cs : List AV} {hp' : Hp} (nm : List Nat) {pn : List Nat} (hF : F.pn = pn) (ht : get s.env t = some (.ptr f 0 0)) (hone : hfam s.hp f = some [.blk T cs]) (hcs : cs = x.cells.map .d) (hx1 : ∀ c ∈ x.cells, c.one = true) (hf : memB f nm = false) (hsub : subB pn nm = true) (hpt : part? s.hp nm = some hp') : SR F ⟨s.n, (t, .d (.ptr x)) :: s.env, hp'⟩ ρ act w := by
  have h1 := h.only nm hF hsub hpt;refine ⟨h1.size, h1.defs, fun t' a ha => ?_, h1.heap⟩;rcases Zbs ha with ⟨rfl, rfl⟩ | ⟨_, ha⟩
  · have hr := h.env t _ ht;have ho : hget s.hp f 0 = some (.blk T cs) := by simp [hget, hone]
    obtain ⟨b, us, e1, e2, e3, e4, e5⟩ := h.heap.sim f 0 _ ho;show RepA _ _ _ _ (act.tmps.getD t undef)
    generalize act.tmps.getD t undef = v at hr
    cases hr with
    | @ptr _ _ _ b' hb =>
      rw [e1] at hb; injection hb with hb; injection hb with hb; injection hb with hb; subst hb
      have hO : ∀ b', F.O ρ hp' b' → F.O ρ s.hp b' := fun b' hb' => hb'.imp id fun ⟨f', i', o', q1, q2⟩ => by
        obtain ⟨m1, _⟩ := part?_mem hpt;refine ⟨f', i', o', ?_, q2⟩;simp only [hget] at q1 ⊢
        cases hh : hfam hp' f' with
        | none => rw [hh] at q1; cases q1
        | some l => rw [(m1 f' l hh).2]; rw [hh] at q1; exact q1
      have hnO : ¬ F.O ρ hp' b := fun hb' => by
        rcases hb' with hb' | ⟨f', i', o', q1, q2⟩
        · exact h.heap.notOf ⟨f, 0, _, ho, by rw [e1]; rfl⟩ hb'
        · obtain ⟨m1, _⟩ := part?_mem hpt;simp only [hget] at q1
          cases hh : hfam hp' f' with
          | none => rw [hh] at q1; cases q1
          | some l =>
            have q3 : hget s.hp f' i' = some o' := by simp only [hget]; rw [(m1 f' l hh).2]; rw [hh] at q1; exact q1
            obtain ⟨e1', _⟩ := h.heap.inj f' i' f 0 _ _ b q3 ho q2 (by rw [e1]; rfl);have := ZaT.2 (m1 f' l hh).1;rw [e1', hf] at this; cases this
      have hlen : us.length = x.cells.length := by rw [e3, hcs, List.length_map]
      refine .d (.ptr (fun j => us.getD j undef) (h.heap.ltO (.inr ⟨f, 0, _, ho, by rw [e1]; rfl⟩)) hnO hx1 (fun j c hj => ?_) (fun j c hj => ?_))
      · have hj' : j < us.length := by rw [hlen]; exact (List.getElem?_eq_some_iff.1 hj).1
        rw [Nat.zero_add, cell_of_row w b j us.toArray T (0, 0) e2]
        simp [hj']
      · have hj' : j < us.length := by rw [hlen]; exact (List.getElem?_eq_some_iff.1 hj).1
        have hc := e4 j (.d c) us[j] (by rw [hcs, List.getElem?_map, hj]; rfl) (List.getElem?_eq_getElem hj');have hg : us.getD j undef = us[j] := by simp [hj']
        rw [hg]
        cases hc with
        | d hc => exact hc.mono (Nat.le_refl _) (fun _ _ _ => rfl) fun b' _ => hO b'
  · exact h1.env t' a ha
theorem o_freezeB {P : Program} {F : Fr} {Q : Exit → AS → Prop} {ops : Array Oper} {l' : List Oper} {sn : Nat} {env : List (Nat × AV)} {hp hp' : Hp} (t f : Nat) (x : D) {T : TypeId} {cs : List AV} (nm : List Nat) {pn : List Nat} (hF : F.pn = pn) (ht : get env t = some (.ptr f 0 0)) (hone : hfam hp f = some [.blk T cs]) (hcs : cs = x.cells.map .d) (hx1 : ∀ c ∈ x.cells, c.one = true) (hf : memB f nm = false) (hsub : subB pn nm = true) (hpt : part? hp nm = some hp')
    (h : Aops P F ops l' Q ⟨sn, (t, .d (.ptr x)) :: env, hp'⟩) : Aops P F ops l' Q ⟨sn, env, hp⟩ := fun ρ act w hs => h ρ act w (hs.freezeB t f x nm hF ht hone hcs hx1 hf hsub hpt)


theorem a_freezeB {P : Program} {F : Fr} {Q : Exit → AS → Prop} {c : Code} {sn : Nat} {env : List (Nat × AV)} {hp hp' : Hp} (t f : Nat) (x : D) {T : TypeId} {cs : List AV} (nm : List Nat) {pn : List Nat} (hF : F.pn = pn) (ht : get env t = some (.ptr f 0 0)) (hone : hfam hp f = some [.blk T cs]) (hcs : cs = x.cells.map .d) (hx1 : ∀ c ∈ x.cells, c.one = true) (hf : memB f nm = false) (hsub : subB pn nm = true) (hpt : part? hp nm = some hp')
    (h : Awp P F c Q ⟨sn, (t, .d (.ptr x)) :: env, hp'⟩) : Awp P F c Q ⟨sn, env, hp⟩ := fun ρ act w hs => h ρ act w (hs.freezeB t f x nm hF ht hone hcs hx1 hf hsub hpt)
theorem values_c (its : List Itm) : ACalls Tryz.prog 142 [.d (.sl none (its.map itmD))] [] fun r H' => r = .fn 162 [.d (.ptr (.sl none (its.map itmD)))] ∧ H' = [] := by
  refine ZaC Tryz.func142 rfl rfl Tryz.ntmps142 rfl rfl rfl fun F hF => ?_;refine Zaf ?_;refine Zab ?_;refine Zal.go (ZaM 1 rfl rfl rfl rfl rfl rfl rfl) ?_;refine Zaa.go (Zad rfl rfl) ?_;refine Zae ?_;refine Zaf ?_;refine Zab ?_;refine o_freezeB 1 1 (.sl none (its.map itmD)) [] hF rfl rfl rfl (by intro c hc; simp [D.cells] at hc; subst hc; rfl) rfl rfl rfl ?_;refine Zaa.go (st_makeFunc rfl rfl) ?_;refine Zaa.go (Zad rfl rfl) ?_;refine Zae ?_;refine Zar ?_;exact ⟨_, [], [], Zan rfl, rfl, rfl, rfl, rfl⟩
abbrev hV (q : List Itm) : Hp := [(920, [.rowD 100 6 (q.map itmD)]), (1, [.blk 33 [.own 920 0 q.length]])]
def stepI (q : List Itm) (x : Itm) : List Itm × Bool := (q ++ [x], true)
theorem feed_app : ∀ (l q : List Itm), feed stepI q l = q ++ l
  | [], q => by simp [feed]
  | x :: l, q => by rw [Zbv]; show (if true = true then feed stepI (q ++ [x]) l else _) = _; rw [if_pos rfl, feed_app l]; simp
theorem feeds_app {P : Program} {l : Nat} {H : List Itm → Hp} {n : Nat} (hY : ∀ q x, q.length < n → YCalls P l (encI x) (H q) fun v H' => v = .d (.raw (.bool true)) ∧ H' = H (q ++ [x])) : ∀ (xs q : List Itm), q.length + xs.length ≤ n → Feeds P l encI H stepI q xs
  | [], _, _ => trivial
  | x :: xs, q, h => ⟨hY q x (by simp at h; omega), fun _ => feeds_app hY xs (q ++ [x]) (by simp at h ⊢; omega)⟩
set_option maxRecDepth 100000 in
theorem appseq_c (its : List Itm) (hits : its.length ≤ 1000000) : ACalls Tryz.prog 167 [.d (.sl (some true) []), .fn 162 [.d (.ptr (.sl none (its.map itmD)))]] [] fun r H' => r = .own 920 0 its.length ∧ H' = [(920, [.rowD 100 6 (its.map itmD)])] := by
  refine a_enterR Tryz.func167 rfl rfl Tryz.ntmps167 rfl rfl rfl fun F hF hFl => ?_;refine Zaf ?_;refine Zab ?_;refine Zal.go (ZaM 1 rfl rfl rfl rfl rfl rfl rfl) ?_;refine Zaa.go (Zad rfl rfl) ?_;refine Zae ?_;refine Zaf ?_;refine Zaf ?_;refine Zb9 1 0 0 920 sl33 rfl rfl rfl rfl rfl rfl rfl ?_;refine Zab ?_;refine Zaa.go (Zac rfl rfl) ?_;refine Zae ?_;refine Zao ?_;refine a_keep [2, 6] rfl ?_;refine a_range (γ := Unit) hFl 900 rfl rfl rfl rfl rfl [1, 920] (CHr := hV []) (fun _ => True) (fun _ => hV its) (fun _ => .ready) (fun _ => none) ⟨rfl, rfl, trivial⟩ rfl rfl rfl (fun _ => rfl) (fun _ => rfl) rfl (fun _ _ => by simp) (fun _ _ => ⟨rfl, rfl⟩) [920, 1] hF rfl rfl (fun _ _ => rfl) (fun l A B hA hB => ?_) (fun _ _ => ?_)
  · refine (seqV_c its hits l (fun q : List Itm => (900, [.loop ⟨l, 13, [(2, .ptr 1 0 0), (6, .fn 162 [.d (.ptr (.sl none (its.map itmD)))])], .ready, none, #[7], A, B⟩]) :: hV q) [900, 920, 1] stepI [] (fun _ => rfl) (fun _ => rfl) (fun _ => rfl) (fun _ => rfl) (fun _ => rfl) rfl ?_).mono (fun r H' ⟨e1, e2⟩ => ⟨e1, (), trivial, by rw [e2, feed_app]; rfl⟩);refine feeds_app (n := its.length) (fun q x hq => ?_) its [] (by simp);refine yc_round (lf := 900) rfl rfl rfl rfl fun F hF hr => ?_;show Awp _ _ A _ _;rw [hA];refine Zab ?_;refine Zal.go (ZaR 2 zl100 rfl rfl rfl rfl) ?_;refine Zal.go (ZaG rfl rfl rfl rfl rfl rfl rfl sz100) ?_;refine Zae ?_;refine ⟨rfl, _, _, rfl, rfl, rfl, rfl, ?_⟩;show Awp _ _ B _ _;rw [hB];refine Zao ?_;refine Zab ?_;refine Zaa.go (Zaj rfl rfl rfl on33 rfl) ?_;refine Zaa.go (Zay rfl rfl rw100 rfl rfl rfl) ?_;refine Zal.go (ZaB 30 sl33 rfl rfl rfl rfl rfl rfl rfl rfl) ?_;refine Zal.go (Za5 (q) ([x]) rfl rfl rfl rfl rfl rfl rfl rfl sl33 (by simp only [List.length_singleton]; omega) rfl rfl rfl rfl) ?_;refine Zal.go (ZaG rfl rfl rfl rfl rfl rfl rfl sz33) ?_;refine Zae ?_;exact ⟨none, _, _, [900, 920, 1], _, rfl, rfl, rfl, rfl, rfl, rfl, rfl, rfl⟩
  · refine Zaf ?_;refine Zab ?_;refine Zaa.go (Zaj rfl rfl rfl on33 rfl) ?_;refine Zaa.go (Zad rfl rfl) ?_;refine Zae ?_;refine Zar ?_;exact ⟨_, [920], _, Zan rfl, rfl, rfl, rfl, rfl⟩
end Go.Proofs.YtnamabifclidmaaGreat

/- Layer 28: a problem's items in order. -/
namespace Go.Proofs.YtnamabifclidmaaGreat
open Go.RowKit

theorem insO_perm (l : List Itm) (x : Itm) : (insO l x).Perm (x :: l) := by
  induction l with
  | nil => exact List.Perm.refl _
  | cons a l ih =>
    simp only [insO]; split
    · exact List.Perm.refl _
    · exact (List.Perm.cons a ih).trans (List.Perm.swap x a l)
theorem insO_sorted {l : List Itm} (h : l.Pairwise fun a b => ¬ ordI b a < 0) (x : Itm) : (insO l x).Pairwise fun a b => ¬ ordI b a < 0 := by
  induction l with
  | nil => simp [insO]
  | cons a l ih =>
    rw [List.pairwise_cons] at h;simp only [insO]
    split
    · rename_i hall
      exact List.pairwise_cons.2 ⟨fun y hy => by have h1 := hall y hy; have h2 := ordI_pc.anti x y; omega, List.pairwise_cons.2 h⟩
    · rename_i hn
      refine List.pairwise_cons.2 ⟨fun y hy => ?_, ih h.2⟩;rcases List.mem_cons.1 ((insO_perm l x).mem_iff.1 hy) with rfl | hy
      · intro hlt;refine hn fun z hz => ?_;rcases List.mem_cons.1 hz with rfl | hz
        · exact hlt
        · have h1 := h.1 z hz;have h2 := ordI_pc.anti a z
          by_cases e : ordI a z = 0
          · have h3 := ordI_pc.eqv a z y e;have h4 := ordI_pc.anti a y; have h5 := ordI_pc.anti z y; omega
          · exact ordI_pc.trans _ _ _ hlt (by omega)
      · exact h.1 y hy
theorem sortO_perm (l : List Itm) : (sortO l).Perm l := by
  induction l using snoc_ind with
  | h0 => exact List.Perm.refl _
  | h1 l x ih =>
    rw [sortO_snoc];exact (insO_perm _ x).trans ((List.Perm.cons x ih).trans (List.perm_append_comm (l₁ := [x]) (l₂ := l)))
theorem sortO_sorted (l : List Itm) : (sortO l).Pairwise fun a b => ¬ ordI b a < 0 := by
  induction l using snoc_ind with
  | h0 => exact List.Pairwise.nil
  | h1 l x ih => rw [sortO_snoc]; exact insO_sorted ih x
theorem ordI_zero {a b : Itm} (h : ordI a b = 0) : a.sq = b.sq := by
  unfold ordI at h;simp only [fst0] at h
  split at h
  · split at h
    · rename_i h2; exact cmpI_zero.1 h2
    · contradiction
  · contradiction
theorem strict_of {l : List Itm} (hn : (l.map Itm.sq).Nodup) (h : l.Pairwise fun a b => ¬ ordI b a < 0) : l.Pairwise fun a b => ordI a b < 0 := by
  rw [List.Nodup, List.pairwise_map] at hn;refine (h.and hn).imp fun {a b} ⟨g1, g2⟩ => ?_;have h1 := ordI_pc.anti a b;have h2 : ordI a b ≠ 0 := fun e => g2 (ordI_zero e);omega
theorem ord_one {its ys : List Itm} (hn : (its.map Itm.sq).Nodup) (h1 : ys.Perm its) (h2 : ys.Pairwise fun a b => ¬ ordI b a < 0) : ys = sortO its :=
  strict_one (R := fun a b => ordI a b < 0) (fun x => by rw [ordI_pc.refl]; omega) (fun x y z => ordI_pc.trans x y z) (strict_of ((h1.map _).nodup_iff.2 hn) h2) (strict_of (((sortO_perm its).map _).nodup_iff.2 hn) (sortO_sorted its)) fun x => by rw [h1.mem_iff, (sortO_perm its).mem_iff]
theorem itmD_agg (x : Itm) : ∃ cs, itmD x = .agg cs := ⟨_, rfl⟩
abbrev seqA (its : List Itm) : AV := .fn 162 [.d (.ptr (.sl none (its.map itmD)))]
set_option maxRecDepth 100000 in
theorem collect_c (its : List Itm) (hits : its.length ≤ 1000000) : ACalls Tryz.prog 160 [seqA its] [] fun r H' => r = .own 920 0 its.length ∧ H' = [(920, [.rowD 100 6 (its.map itmD)])] := by
  refine ZaC Tryz.func160 rfl rfl Tryz.ntmps160 rfl rfl rfl fun F hF => ?_;refine Zaf ?_;refine Zab ?_;refine Zaa.go (Zad rfl rfl) ?_;refine Zae ?_;refine Zaf ?_;refine Zab ?_;refine Zaa.go (Zac rfl rfl) ?_;refine Zal.go (Zbg (appseq_c its hits) rfl [920] ⟨rfl, trivial⟩ rfl rfl rfl rfl rfl rfl rfl rfl rfl) ?_;refine Zaa.go (Zad rfl rfl) ?_;refine Zae ?_;refine Zar ?_;exact ⟨_, [920], _, Zan rfl, rfl, rfl, rfl, rfl⟩
set_option maxRecDepth 100000 in
theorem sortedF_p (its : List Itm) (hits : its.length ≤ 1000000) (hn : (its.map Itm.sq).Nodup) : PCalls Tryz.prog 141 [seqA its, .d (.raw (.func (.func 143) #[] #[]))] (.sl none ((sortO its).map itmD)) := by
  refine ZaC Tryz.func141 rfl rfl Tryz.ntmps141 rfl rfl rfl fun F hF => ?_;refine Zaf ?_;refine Zab ?_;refine Zaa.go (Zad rfl rfl) ?_;refine Zae ?_;refine Zaf ?_;refine Zab ?_;refine Zaa.go (Zac rfl rfl) ?_;refine Zal.go (Zbg (collect_c its hits) rfl [920] ⟨rfl, trivial⟩ rfl rfl rfl rfl rfl rfl rfl rfl rfl) ?_;refine Zaa.go (Zad rfl rfl) ?_;refine Zae ?_;refine Zaf ?_;refine Zab ?_;refine Zaa.go (Zac rfl rfl) ?_;refine Zaa.go (Zac rfl rfl) ?_;refine Zal.go (st_sort laysI (k := 6) (by decide) Tryz.isAgg100 Tryz.sizeOf100 Tryz.func143 rfl rfl itmD_agg ordI ordI_pc.swo its (sortO its) (by omega) (fun x _ y _ => order_p x y) (fun ys g1 g2 => ord_one hn g1 g2) rfl rfl rfl fa_raw rfl rfl rfl rfl rfl) ?_;refine Zae ?_;refine Zaf ?_;refine Zbn (emb := itmD) 5 920 (sortO its) rfl rfl rfl (sortO_len its).symm rfl rfl rfl ?_;refine Zab ?_;refine Zaa.go (Zac rfl rfl) ?_;refine Zaa.go (Zad rfl rfl) ?_;refine Zae ?_;refine Zar ?_;exact ⟨_, [], [], Zan rfl, rfl, rfl, rfl, rfl⟩
theorem items_nodup {l : List Itm} (h : itemsE l = 0) : (l.map Itm.sq).Nodup := by
  have h0 := Zb3.1 h;rw [List.Nodup, List.pairwise_map, List.pairwise_iff_getElem];intro i j hi hj hij e;have := h0 j (List.mem_range.2 hj);unfold iErr at this;rw [Zbj itm0 hj] at this
  split at this
  · contradiction
  · split at this
    · cases this
    · rename_i hn
      exact hn (.inr (mem_tk hj hij e))
theorem prb_ok {p : Prb} (h : prbE p = 0) : roomsE p.ro = 0 ∧ itemsE p.it = 0 ∧ afterE p.it = 0 := by
  unfold prbE at h
  split at h; · cases h
  have h3 := fst0_all h;exact ⟨h3 _ (by simp), h3 _ (by simp), h3 _ (by simp)⟩
def ordP (p : Prb) : List Itm := if prbE p = 0 then sortO p.it else []
set_option maxRecDepth 100000 in
theorem psorted_p (p : Prb) (hb : PrbB p) : PCalls Tryz.prog 116 [.d (prbD p)] (.sl none ((ordP p).map itmD)) := by
  have hck := pcheck_p p hb;obtain ⟨_, g2, _⟩ := hb
  by_cases hE : prbE p = 0
  · rw [hE] at hck;have hR : ordP p = sortO p.it := if_pos hE;rw [hR];refine ZaC Tryz.func116 rfl rfl Tryz.ntmps116 rfl rfl rfl fun F hF => ?_;refine Zaf ?_;refine Zab ?_;refine Zal.go (ZaM 1 rfl rfl rfl rfl rfl rfl rfl) ?_;refine Zaa.go (Zad rfl rfl) ?_;refine Zae ?_;refine Zaf ?_;refine Zaf ?_;refine Zab ?_;refine Zaa.go (Zay rfl rfl rw35 rfl rfl rfl) ?_;refine Zaa.go (Zas (hck) rfl rfl) ?_;refine Zaa.go (Za7 rfl rfl rfl) ?_;refine Zae ?_;refine Za2 rfl ((by decide)) ?_;refine Zap ?_;refine Zaf ?_;refine Zab ?_;refine Zaa.go (Zai rfl fi35_1 rfl rfl rfl) ?_;refine Zaa.go (Zaj rfl rfl rfl on33 rfl) ?_;refine Zal.go (Zbg (values_c p.it) rfl [] trivial rfl rfl rfl rfl rfl rfl rfl rfl rfl) ?_;refine Zaa.go (Zas (sortedF_p p.it (by omega) (items_nodup (prb_ok hE).2.1)) rfl rfl) ?_;refine Zaa.go (Zad rfl rfl) ?_;refine Zae ?_;refine Zar ?_;exact ⟨_, [], [], Zan rfl, rfl, rfl, rfl, rfl⟩
  · have hR : ordP p = [] := if_neg hE;rw [hR];refine ZaC Tryz.func116 rfl rfl Tryz.ntmps116 rfl rfl rfl fun F hF => ?_;refine Zaf ?_;refine Zab ?_;refine Zal.go (ZaM 1 rfl rfl rfl rfl rfl rfl rfl) ?_;refine Zaa.go (Zad rfl rfl) ?_;refine o_anyNil 2 rfl ?_;refine Zae ?_;refine Zaf ?_;refine Zaf ?_;refine Zab ?_;refine Zaa.go (Zay rfl rfl rw35 rfl rfl rfl) ?_;refine Zaa.go (Zas (hck) rfl rfl) ?_;refine Zaa.go (Za7 rfl rfl rfl) ?_;refine Zae ?_;refine ZaQ rfl ((by simpa using hE)) ?_;refine Zaf ?_;refine Zab ?_;refine Zaa.go (Zad rfl rfl) ?_;refine o_anyNil 2 rfl ?_;refine Zae ?_;refine Zar ?_;exact ⟨_, [], [], Zan rfl, rfl, rfl, rfl, rfl⟩
end Go.Proofs.YtnamabifclidmaaGreat
/- Layer 28: Order, Queue, Item. -/
namespace Go.Proofs.YtnamabifclidmaaGreat
open Go.RowKit

theorem ordP_len (p : Prb) : (ordP p).length ≤ p.it.length := by unfold ordP; split <;> simp [sortO_len]
theorem ordP_mem {p : Prb} {i : Itm} (h : i ∈ ordP p) : i ∈ p.it := by
  unfold ordP at h; split at h
  · exact (sortO_perm _).mem_iff.1 h
  · cases h
set_option maxRecDepth 100000 in
theorem order_ids_p (p : Prb) (hb : PrbB p) : PCalls Tryz.prog 97 [.d (prbD p)] (.sl none (((ordP p).map Itm.id).map intD)) := by
  have hso := psorted_p p hb;have hlen := ordP_len p;have hb2 := hb.2.1
  obtain ⟨S, hS⟩ : ∃ S, ordP p = S := ⟨_, rfl⟩
  rw [hS] at hso hlen ⊢;refine ZaC Tryz.func97 rfl rfl Tryz.ntmps97 rfl rfl rfl fun F hF => ?_;refine Zaf ?_;refine Zab ?_;refine Zal.go (ZaM 1 rfl rfl rfl rfl rfl rfl rfl) ?_;refine Zaa.go (Zad rfl rfl) ?_;refine Zae ?_;refine Zaf ?_;refine Zab ?_;refine Zaa.go (Zad rfl rfl) ?_;refine Zae ?_;refine Zaf ?_;refine Zaf ?_;refine a_adopt 3 900 sl26 rfl rfl rfl rfl ?_;refine Zab ?_
  first | refine Zaa.go (ZaE rfl rfl rw35 rfl) ?_ | refine Zaa.go (Zay rfl rfl rw35 rfl rfl rfl) ?_ | refine Zaa.go (Za8 rfl rfl (rfl) rfl rw35 rfl) ?_
  refine Zaa.go (Zas (hso) rfl rfl) ?_
  first | refine Zaa.go (Zaw rfl Tryz.underlying33 rfl) ?_ | refine Zaa.go (Zbm rfl rfl Tryz.underlying33 rfl) ?_ | refine Zaa.go (Zbl rfl Tryz.underlying33 rfl) ?_ | refine Zaa.go (Zbf rfl Tryz.underlying33 rfl) ?_ | refine Zaa.go (Zbk rfl Tryz.underlying33 rfl) ?_
  refine Zaa.go (Zac rfl rfl) ?_;refine Zae ?_;refine Zao ?_;refine ZaP (α := Nat × List Int) (fun q => ⟨20, [(3, (.own 900 0 q.2.length)), (7, (.d (.sl none (S.map itmD)))), (8, (.d (intD (S.length : Int)))), (9, (.d (intD (q.1 : Int))))], [(900, [.rowD 3 1 (q.2.map intD)])]⟩) (fun q => q.1 ≤ S.length ∧ q.2 = (S.take q.1).map Itm.id) (fun q => S.length - q.1) ((0, [])) (⟨Nat.zero_le _, rfl⟩) (Zau hF [900] rfl rfl ⟨rfl, rfl, rfl, rfl, trivial⟩) ?_;rintro ⟨k, acc⟩ ⟨hk0, hA⟩;dsimp only at hk0 hA ⊢;refine Zaf ?_;refine Zab ?_
  first | refine Zaa.go (ZaH rfl rfl rfl) ?_ | refine Zaa.go (Zbx rfl rfl rfl) ?_
  refine Zae ?_;refine Zaf ?_
  first | refine ZaD rfl (fun h10 => ?_) (fun h10 => ?_) | refine Za9 rfl (fun h10 => ?_) (fun h10 => ?_)
  · have hk1 : k < S.length := ZaJ h10;refine Zap ?_;refine Zaf ?_;refine Zao ?_;refine Zaf ?_;refine Zab ?_;have hal : acc.length ≤ 100000 := by rw [hA, List.length_map, List.length_take]; omega
    first | refine Zaa.go (Zat (k) rfl rfl (rfl) (getm hk1) Tryz.underlying33 rfl sz100 rfl) ?_ | refine Zaa.go (Zbb (k) rfl rfl (rfl) (getm hk1) rfl Tryz.underlying33 sz100 rfl) ?_
    first | refine Zaa.go (ZaE rfl rfl rw100 rfl) ?_ | refine Zaa.go (Zay rfl rfl rw100 rfl rfl rfl) ?_ | refine Zaa.go (Za8 rfl rfl (rfl) rfl rw100 rfl) ?_
    refine Zal.go (ZaR 2 zl100 rfl rfl rfl rfl) ?_;refine Zal.go (ZaG rfl rfl rfl rfl rfl rfl rfl sz100) ?_;refine Zae ?_;refine Zab ?_;refine Zaa.go (Zac rfl rfl) ?_
    first | refine Zaa.go (Zai rfl fi100_0 rfl rfl rfl) ?_ | refine Zaa.go (ZaX rfl fi100_0 rfl rfl rfl) ?_ | refine Zaa.go (Za3 rfl fi100_0 rfl rfl rfl) ?_ | refine Zaa.go (ZbA rfl fi100_0 rfl rfl rfl) ?_
    first | refine Zaa.go (Zaq rfl rfl on3 rfl) ?_ | refine Zaa.go (Zaj rfl rfl rfl on3 rfl) ?_ | refine Zaa.go (ZaF rfl rfl (rfl) rfl on3 rfl) ?_
    refine Zal.go (ZaB 3 sl26 rfl rfl rfl rfl rfl rfl rfl rfl) ?_
    first | refine Zal.go (Za5 (acc) ([S[k].id]) rfl rfl rfl rfl rfl rfl rfl rfl sl26 (by simp only [List.length_singleton]; omega) rfl rfl rfl rfl) ?_ | refine Zal.go (Za6 (acc) ([S[k].id]) rfl rfl rfl rfl rfl rfl (fun _ => rfl) sl26 (by simp only [List.length_singleton]; omega) rfl rfl rfl rfl) ?_
    refine Zaa.go (Zad rfl rfl) ?_;refine Zae ?_;refine Zab ?_;refine Zaa.go (Zaz rfl rfl (wrapS (k + 1) (by omega)) rfl) ?_;refine Zaa.go (Zac rfl rfl) ?_;refine Zae ?_;exact ⟨(k + 1, _), ⟨by show k + 1 ≤ _; omega, by show _ = (S.take (k + 1)).map Itm.id; rw [tk_map hk1, ← hA]⟩, by show S.length - (k + 1) < S.length - k; omega, Zau hF [900] rfl (rfl) ⟨rfl, rfl, rfl, rfl, trivial⟩⟩
  · refine ZaN ?_;refine Zaf ?_;refine Zbn (emb := intD) 3 900 acc rfl rfl rfl rfl rfl rfl rfl ?_;refine Zab ?_;refine Zaa.go (Zac rfl rfl) ?_;refine Zaa.go (Zad rfl rfl) ?_;refine Zae ?_;refine Zar ?_;exact ⟨_, [], [], Zan rfl, rfl, rfl, by rw [hA, List.take_of_length_le (by have h := h10; omega)], rfl⟩
set_option maxRecDepth 100000 in
theorem queue_p (p : Prb) (r : Rsc) (hb : PrbB p) : PCalls Tryz.prog 98 [.d (prbD p), .d (rscD r)] (.sl none ((qIds (ordP p) r).map intD)) := by
  have hso := psorted_p p hb;have hlen := ordP_len p;have hb2 := hb.2.1;have hmem : ∀ i ∈ ordP p, i.po.length ≤ 100000 ∧ i.pa.length ≤ 100000 ∧ i.af.length ≤ 100000 := fun i hi => hb.2.2 i (ordP_mem hi)
  obtain ⟨S, hS⟩ : ∃ S, ordP p = S := ⟨_, rfl⟩
  rw [hS] at hso hlen hmem ⊢;refine ZaC Tryz.func98 rfl rfl Tryz.ntmps98 rfl rfl rfl fun F hF => ?_;refine Zaf ?_;refine Zab ?_;refine Zal.go (ZaM 1 rfl rfl rfl rfl rfl rfl rfl) ?_;refine Zal.go (ZaM 2 rfl rfl rfl rfl rfl rfl rfl) ?_;refine Zaa.go (Zad rfl rfl) ?_;refine Zae ?_;refine Zaf ?_;refine Zab ?_;refine Zaa.go (Zad rfl rfl) ?_;refine Zae ?_;refine Zaf ?_;refine Zaf ?_;refine a_adopt 5 900 sl26 rfl rfl rfl rfl ?_;refine Zab ?_
  first | refine Zaa.go (ZaE rfl rfl rw35 rfl) ?_ | refine Zaa.go (Zay rfl rfl rw35 rfl rfl rfl) ?_ | refine Zaa.go (Za8 rfl rfl (rfl) rfl rw35 rfl) ?_
  refine Zaa.go (Zas (hso) rfl rfl) ?_
  first | refine Zaa.go (Zaw rfl Tryz.underlying33 rfl) ?_ | refine Zaa.go (Zbm rfl rfl Tryz.underlying33 rfl) ?_ | refine Zaa.go (Zbl rfl Tryz.underlying33 rfl) ?_ | refine Zaa.go (Zbf rfl Tryz.underlying33 rfl) ?_ | refine Zaa.go (Zbk rfl Tryz.underlying33 rfl) ?_
  refine Zaa.go (Zac rfl rfl) ?_;refine Zae ?_;refine Zao ?_;refine ZaP (α := Nat × List Int) (fun q => ⟨26, [(3, (.ptr 2 0 0)), (5, (.own 900 0 q.2.length)), (9, (.d (.sl none (S.map itmD)))), (10, (.d (intD (S.length : Int)))), (11, (.d (intD (q.1 : Int))))], [(2, [.blk 47 [.d (intD r.k), .d (strD r.acc.o), .d (intD r.acc.k), .d (strD r.acc.a), .d (strD r.f), .d (strD r.t)]]), (900, [.rowD 3 1 (q.2.map intD)])]⟩) (fun q => q.1 ≤ S.length ∧ q.2 = qIds (S.take q.1) r) (fun q => S.length - q.1) ((0, [])) (⟨Nat.zero_le _, rfl⟩) (Zau hF [2, 900] rfl rfl ⟨rfl, rfl, rfl, rfl, rfl, trivial⟩) ?_;rintro ⟨k, acc⟩ ⟨hk0, hA⟩;dsimp only at hk0 hA ⊢;refine Zaf ?_;refine Zab ?_
  first | refine Zaa.go (ZaH rfl rfl rfl) ?_ | refine Zaa.go (Zbx rfl rfl rfl) ?_
  refine Zae ?_;refine Zaf ?_
  first | refine ZaD rfl (fun h12 => ?_) (fun h12 => ?_) | refine Za9 rfl (fun h12 => ?_) (fun h12 => ?_)
  · have hk1 : k < S.length := ZaJ h12;refine Zap ?_;refine Zaf ?_;refine Zao ?_;refine Zaf ?_;refine Zab ?_;have hgi := hmem _ (List.getElem_mem hk1);have hal : acc.length ≤ 100000 := by rw [hA]; unfold qIds; rw [List.length_map]; have := List.length_filter_le (fun i => decide (dltE i r < 0)) (S.take k); rw [List.length_take] at this; omega
    first | refine Zaa.go (Zat (k) rfl rfl (rfl) (getm hk1) Tryz.underlying33 rfl sz100 rfl) ?_ | refine Zaa.go (Zbb (k) rfl rfl (rfl) (getm hk1) rfl Tryz.underlying33 sz100 rfl) ?_
    first | refine Zaa.go (ZaE rfl rfl rw100 rfl) ?_ | refine Zaa.go (Zay rfl rfl rw100 rfl rfl rfl) ?_ | refine Zaa.go (Za8 rfl rfl (rfl) rfl rw100 rfl) ?_
    refine Zal.go (ZaR 3 zl100 rfl rfl rfl rfl) ?_;refine Zal.go (ZaG rfl rfl rfl rfl rfl rfl rfl sz100) ?_;refine Zae ?_;refine Zaf ?_;refine Zab ?_
    first | refine Zaa.go (ZaE rfl rfl rw100 rfl) ?_ | refine Zaa.go (Zay rfl rfl rw100 rfl rfl rfl) ?_ | refine Zaa.go (Za8 rfl rfl (rfl) rfl rw100 rfl) ?_
    first | refine Zaa.go (ZaE rfl rfl rw47 rfl) ?_ | refine Zaa.go (Zay rfl rfl rw47 rfl rfl rfl) ?_ | refine Zaa.go (Za8 rfl rfl (rfl) rfl rw47 rfl) ?_
    refine Zaa.go (Zas (delta_p S[k] r (by omega) (by omega) (by omega)) rfl rfl) ?_
    first | refine Zaa.go (ZaH rfl rfl rfl) ?_ | refine Zaa.go (Zbx rfl rfl rfl) ?_
    refine Zae ?_
    first | refine ZaD rfl (fun h18 => ?_) (fun h18 => ?_) | refine Za9 rfl (fun h18 => ?_) (fun h18 => ?_)
    · refine Zab ?_;refine Zaa.go (Zac rfl rfl) ?_
      first | refine Zaa.go (Zai rfl fi100_0 rfl rfl rfl) ?_ | refine Zaa.go (ZaX rfl fi100_0 rfl rfl rfl) ?_ | refine Zaa.go (Za3 rfl fi100_0 rfl rfl rfl) ?_ | refine Zaa.go (ZbA rfl fi100_0 rfl rfl rfl) ?_
      first | refine Zaa.go (Zaq rfl rfl on3 rfl) ?_ | refine Zaa.go (Zaj rfl rfl rfl on3 rfl) ?_ | refine Zaa.go (ZaF rfl rfl (rfl) rfl on3 rfl) ?_
      refine Zal.go (ZaB 4 sl26 rfl rfl rfl rfl rfl rfl rfl rfl) ?_
      first | refine Zal.go (Za5 (acc) ([S[k].id]) rfl rfl rfl rfl rfl rfl rfl rfl sl26 (by simp only [List.length_singleton]; omega) rfl rfl rfl rfl) ?_ | refine Zal.go (Za6 (acc) ([S[k].id]) rfl rfl rfl rfl rfl rfl (fun _ => rfl) sl26 (by simp only [List.length_singleton]; omega) rfl rfl rfl rfl) ?_
      refine Zaa.go (Zad rfl rfl) ?_;refine Zae ?_;refine Zab ?_;refine Zaa.go (Zaz rfl rfl (wrapS (k + 1) (by omega)) rfl) ?_;refine Zaa.go (Zac rfl rfl) ?_;refine Zae ?_;exact ⟨(k + 1, _), ⟨by show k + 1 ≤ _; omega, by show _ = qIds (S.take (k + 1)) r; unfold qIds; rw [flt_snoc hk1, if_pos (by simpa using h18), List.map_append, hA]; rfl⟩, by show S.length - (k + 1) < S.length - k; omega, Zau hF [2, 900] rfl (rfl) ⟨rfl, rfl, rfl, rfl, rfl, trivial⟩⟩
    · refine Zap ?_;refine Zab ?_;refine Zaa.go (Zaz rfl rfl (wrapS (k + 1) (by omega)) rfl) ?_;refine Zaa.go (Zac rfl rfl) ?_;refine Zae ?_;exact ⟨(k + 1, _), ⟨by show k + 1 ≤ _; omega, by show _ = qIds (S.take (k + 1)) r; unfold qIds; rw [flt_snoc hk1, if_neg (by simpa using h18), List.append_nil, hA]; rfl⟩, by show S.length - (k + 1) < S.length - k; omega, Zau hF [2, 900] rfl (rfl) ⟨rfl, rfl, rfl, rfl, rfl, trivial⟩⟩
  · refine ZaN ?_;refine Zaf ?_;refine Zbn (emb := intD) 5 900 acc rfl rfl rfl rfl rfl rfl rfl ?_;refine Zab ?_;refine Zaa.go (Zac rfl rfl) ?_;refine Zaa.go (Zad rfl rfl) ?_;refine Zae ?_;refine Zar ?_;exact ⟨_, [], [], Zan rfl, rfl, rfl, by rw [hA, List.take_of_length_le (by have h := h12; omega)], rfl⟩
end Go.Proofs.YtnamabifclidmaaGreat

/- Layer 28: Item. -/
namespace Go.Proofs.YtnamabifclidmaaGreat
open Go.RowKit

end Go.Proofs.YtnamabifclidmaaGreat

/- Layer 28, plain: items by id. -/
namespace Go.Proofs.YtnamabifclidmaaGreat
open Go.RowKit

theorem ids_inj {l : List Itm} (hn : (l.map Itm.id).Nodup) {x y : Itm} (hx : x ∈ l) (hy : y ∈ l) (h : x.id = y.id) : x = y := by
  induction l with
  | nil => cases hx
  | cons a l ih =>
    rw [List.map_cons, List.nodup_cons] at hn;rcases List.mem_cons.1 hx with e1 | hx' <;> rcases List.mem_cons.1 hy with e2 | hy'
    · rw [e1, e2]
    · exact absurd (List.mem_map.2 ⟨y, hy', by rw [← h, e1]⟩) hn.1
    · exact absurd (List.mem_map.2 ⟨x, hx', by rw [h, e2]⟩) hn.1
    · exact ih hn.2 hx' hy'
theorem items_ids {l : List Itm} (h : itemsE l = 0) : (l.map Itm.id).Nodup := by
  have h0 := Zb3.1 h;rw [List.Nodup, List.pairwise_map, List.pairwise_iff_getElem];intro i j hi hj hij e;have := h0 j (List.mem_range.2 hj);unfold iErr at this;rw [Zbj itm0 hj] at this
  split at this
  · contradiction
  · split at this
    · cases this
    · rename_i hn
      exact hn (.inl (mem_tk hj hij e))
end Go.Proofs.YtnamabifclidmaaGreat
/- Layer 28: conversion of problems; the law of problems' checks. -/
namespace Go.Proofs.YtnamabifclidmaaGreat
open Go.RowKit

set_option maxRecDepth 100000 in
theorem own_p (p : Prb) (h : Sml p) : PCalls Tryz.prog 16 [.d (prbD p)] (prbD p) := by
  obtain ⟨g1, g2, g3⟩ := h;refine ZaC Tryz.func16 rfl rfl Tryz.ntmps16 rfl rfl rfl fun F hF => ?_;refine Zaf ?_;refine Zab ?_;refine Zal.go (ZaM 1 rfl rfl rfl rfl rfl rfl rfl) ?_;refine Zal.go (ZaR 2 zl35 rfl rfl rfl rfl) ?_;refine Zae ?_;refine Zaf ?_;refine Zab ?_;refine Zal.go (ZaR 3 zl35 rfl rfl rfl rfl) ?_;refine Zae ?_;refine Zaf ?_;refine Zaf ?_;refine Zb9 3 0 0 901 sl32 rfl rfl rfl rfl rfl rfl rfl ?_;refine Zab ?_;refine Zaa.go (Zad rfl rfl) ?_;refine Zae ?_;refine Zao ?_;refine ZaP (α := List Roo) (fun acc => ⟨51, [(1, (.ptr 1 0 0)), (2, (.ptr 2 0 0)), (3, (.ptr 3 0 0)), (4, (.d (intD (acc.length : Int))))], [(901, [.rowD 70 7 (acc.map rooD)]), (1, [prbB2 25 p]), (2, [.blk 35 [nilC, nilC]]), (3, [.blk 35 [.own 901 0 acc.length, nilC]])]⟩) (fun acc => acc = p.ro.take acc.length ∧ acc.length ≤ p.ro.length) (fun acc => p.ro.length - acc.length) ([]) (⟨by simp, Nat.zero_le _⟩) (Zau hF [901, 1, 2, 3] rfl rfl ⟨rfl, rfl, rfl, rfl, trivial⟩) ?_;rintro acc ⟨hI, hk0⟩;refine Zaf ?_;refine Zaf ?_;refine Zab ?_;refine Zaa.go (Zac rfl rfl) ?_;refine Zaa.go (Zai rfl fi25_0 rfl rfl rfl) ?_;refine Zaa.go (Zaj rfl rfl rfl on22 rfl) ?_;refine Zaa.go (Zaw rfl Tryz.underlying22 rfl) ?_;refine Zaa.go (ZaH rfl rfl rfl) ?_;refine Zae ?_;refine ZaD rfl (fun h10 => ?_) (fun h10 => ?_)
  · have hk1 : acc.length < p.ro.length := ZaJ h10;refine Zap ?_;refine Zaf ?_;refine Zao ?_;refine ZaV [[], [0], [], [2], [], [2, 3, 4], [2, 3, 4, 5], [2, 3, 4, 5, 6], [2, 3, 4, 5, 6, 7], [], [9], [], [9, 10, 11], [9, 10, 11, 12], [9, 10, 11, 12, 13], [2, 3, 4, 5, 6, 7, 8, 9, 10, 11, 12, 13, 14], [2, 3, 4, 5, 6, 7, 8, 9, 10, 11, 12, 13, 14, 15], [0, 1, 2, 3, 4, 5, 6, 7, 8, 9, 10, 11, 12, 13, 14, 15, 16], [0, 1, 2, 3, 4, 5, 6, 7, 8, 9, 10, 11, 12, 13, 14, 15, 16, 17], [0, 1, 2, 3, 4, 5, 6, 7, 8, 9, 10, 11, 12, 13, 14, 15, 16, 17, 18]] mixed rfl ?_;refine dws ?_;refine Zah [3] [] rfl rfl (fun _ => Zag (Zai rfl fi35_0 rfl rfl rfl)) ?_;refine Zav [13] rfl rfl (fun _ => Zag (Zaj rfl rfl rfl on32 rfl)) ?_;refine Zah [1] [] rfl rfl (fun _ => Zag (Zai rfl fi25_0 rfl rfl rfl)) ?_;refine Zav [15] rfl rfl (fun _ => Zag (Zaj rfl rfl rfl on22 rfl)) ?_;refine Zah [4] [] rfl rfl (fun _ => Zag (Zac rfl rfl)) ?_;refine Zah [16, 17] [] rfl rfl (fun _ => Zag (Zat (acc.length) rfl rfl (rfl) (getm hk1) Tryz.underlying22 rfl sz104 rfl)) ?_;refine Zah [18] [] rfl rfl (fun _ => Zag (Za3 rfl fi104_0 rfl rfl rfl)) ?_;refine Zah [19] [] rfl rfl (fun _ => Zag (ZaE rfl rfl rw52 rfl)) ?_;refine Zah [20] [] rfl rfl (fun _ => Zag (Zas (ownres_p p.ro[acc.length].r) rfl rfl)) ?_;refine Zah [1] [] rfl rfl (fun _ => Zag (Zai rfl fi25_0 rfl rfl rfl)) ?_;refine Zav [22] rfl rfl (fun _ => Zag (Zaj rfl rfl rfl on22 rfl)) ?_;refine Zah [4] [] rfl rfl (fun _ => Zag (Zac rfl rfl)) ?_;refine Zah [23, 24] [] rfl rfl (fun _ => Zag (Zat (acc.length) rfl rfl (rfl) (getm hk1) Tryz.underlying22 rfl sz104 rfl)) ?_;refine Zah [25] [] rfl rfl (fun _ => Zag (ZaX rfl fi104_1 rfl rfl rfl)) ?_;refine Zah [26] [] rfl rfl (fun _ => Zag (Zaq rfl rfl on2 rfl)) ?_;refine Zah [21, 27] [] rfl rfl (fun _ => Zag (Za4 zl70 pl70 rfl rfl rfl)) ?_;refine Zbd [28] [50] [(29, _)] rfl rfl (fun _ => ZaW (ZaB 50 sl32 rfl rfl rfl rfl rfl rfl rfl rfl)) (.inr ⟨29, _, rfl, rfl, rfl, rfl, rfl⟩) rfl rfl rfl rfl rfl ?_;refine dwc 17 rfl rfl rfl ?_;refine dw1 18 rfl rfl ?_;refine Zal.go (Za5 (acc) ([p.ro[acc.length]]) rfl rfl rfl rfl rfl rfl rfl rfl sl32 (by simp only [List.length_singleton]; omega) rfl rfl rfl rfl) ?_;refine Zae ⟨rfl, ?_⟩;refine dw1 19 rfl rfl ?_;refine Zaa.go (Zai rfl fi35_0 rfl rfl rfl) ?_;refine Zae ⟨rfl, ?_⟩;refine dw1 20 rfl rfl ?_;refine Zal.go (ZaG rfl rfl rfl rfl rfl rfl rfl sz32) ?_;refine Zae ⟨rfl, ?_⟩;refine dwe ?_;refine Zab ?_;refine Zaa.go (Zac rfl rfl) ?_;refine Zaa.go (Zaz rfl rfl (wrapA acc p.ro[acc.length] (by omega)) rfl) ?_;refine Zaa.go (Zad rfl rfl) ?_;refine Zae ?_;exact ⟨acc ++ [p.ro[acc.length]], ⟨tk_next hI hk1, by rw [List.length_append]; show acc.length + 1 ≤ _; omega⟩, by rw [List.length_append]; show p.ro.length - (acc.length + 1) < p.ro.length - acc.length; omega, Zau hF [901, 1, 2, 3] rfl (rfl) ⟨rfl, rfl, rfl, rfl, trivial⟩⟩
  · refine ZaN ?_;refine Zaf ?_;refine Zaf ?_;have hacc := tk_end hI (fun h => h10 (by omega));refine ZbS (ys := p.ro.map rooD) 3 0 0 901 rfl rfl rfl (by simp) (by rw [hacc]; exact List.take_of_length_le (by simp)) rfl rfl rfl rfl rfl rfl ?_;refine Zb9 3 0 1 902 sl33 rfl rfl rfl rfl rfl rfl rfl ?_;refine Zab ?_;refine Zaa.go (Zad rfl rfl) ?_;refine Zae ?_;refine Zao ?_;refine ZaP (α := List Itm) (fun acc2 => ⟨51, [(1, (.ptr 1 0 0)), (2, (.ptr 2 0 0)), (3, (.ptr 3 0 0)), (5, (.d (intD (acc2.length : Int))))], [(902, [.rowD 100 6 (acc2.map itmD)]), (1, [prbB2 25 p]), (2, [.blk 35 [nilC, nilC]]), (3, [.blk 35 [.d (.sl none (p.ro.map rooD)), .own 902 0 acc2.length]])]⟩) (fun acc2 => acc2 = p.it.take acc2.length ∧ acc2.length ≤ p.it.length) (fun acc2 => p.it.length - acc2.length) ([]) (⟨by simp, Nat.zero_le _⟩) (Zau hF [902, 1, 2, 3] rfl rfl ⟨rfl, rfl, rfl, rfl, trivial⟩) ?_;rintro acc2 ⟨hJ, hk2⟩;refine Zaf ?_;refine Zaf ?_;refine Zab ?_;refine Zaa.go (Zac rfl rfl) ?_;refine Zaa.go (Zai rfl Zbc rfl rfl rfl) ?_;refine Zaa.go (Zaj rfl rfl rfl on23 rfl) ?_;refine Zaa.go (Zaw rfl Tryz.underlying23 rfl) ?_;refine Zaa.go (ZaH rfl rfl rfl) ?_;refine Zae ?_;refine ZaD rfl (fun h36 => ?_) (fun h36 => ?_)
    · have hk3 : acc2.length < p.it.length := ZaJ h36;refine Zap ?_;refine Zaf ?_;refine Zao ?_;refine ZaV [[], [0], [], [2], [], [2, 3, 4], [2, 3, 4, 5], [2, 3, 4, 5, 6], [2, 3, 4, 5, 6, 7], [0, 1, 2, 3, 4, 5, 6, 7, 8], [0, 1, 2, 3, 4, 5, 6, 7, 8, 9], [0, 1, 2, 3, 4, 5, 6, 7, 8, 9, 10]] mixed rfl ?_;refine dws ?_;refine Zah [3] [] rfl rfl (fun _ => Zag (Zai rfl fi35_1 rfl rfl rfl)) ?_;refine Zav [39] rfl rfl (fun _ => Zag (Zaj rfl rfl rfl on33 rfl)) ?_;refine Zah [1] [] rfl rfl (fun _ => Zag (Zai rfl Zbc rfl rfl rfl)) ?_;refine Zav [41] rfl rfl (fun _ => Zag (Zaj rfl rfl rfl on23 rfl)) ?_;refine Zah [5] [] rfl rfl (fun _ => Zag (Zac rfl rfl)) ?_;have hgi := g3 _ (List.getElem_mem hk3);refine Zah [42, 43] [] rfl rfl (fun _ => Zag (Zat (acc2.length) rfl rfl (rfl) (getm hk3) Tryz.underlying23 rfl sz80 rfl)) ?_;refine Zah [44] [] rfl rfl (fun _ => Zag (ZaE rfl rfl rw80 rfl)) ?_;refine Zah [45] [] rfl rfl (fun _ => Zag (Zas (ownitem_p p.it[acc2.length] (by omega) (by omega) (by omega)) rfl rfl)) ?_;refine Zbd [46] [51] [(47, _)] rfl rfl (fun _ => ZaW (ZaB 51 sl33 rfl rfl rfl rfl rfl rfl rfl rfl)) (.inr ⟨47, _, rfl, rfl, rfl, rfl, rfl⟩) rfl rfl rfl rfl rfl ?_;refine dwc 9 rfl rfl rfl ?_;refine dw1 10 rfl rfl ?_;refine Zal.go (Za5 (acc2) ([p.it[acc2.length]]) rfl rfl rfl rfl rfl rfl rfl rfl sl33 (by simp only [List.length_singleton]; omega) rfl rfl rfl rfl) ?_;refine Zae ⟨rfl, ?_⟩;refine dw1 11 rfl rfl ?_;refine Zaa.go (Zai rfl fi35_1 rfl rfl rfl) ?_;refine Zae ⟨rfl, ?_⟩;refine dw1 12 rfl rfl ?_;refine Zal.go (ZaG rfl rfl rfl rfl rfl rfl rfl sz33) ?_;refine Zae ⟨rfl, ?_⟩;refine dwe ?_;refine Zab ?_;refine Zaa.go (Zac rfl rfl) ?_;refine Zaa.go (Zaz rfl rfl (wrapA acc2 p.it[acc2.length] (by omega)) rfl) ?_;refine Zaa.go (Zad rfl rfl) ?_;refine Zae ?_;exact ⟨acc2 ++ [p.it[acc2.length]], ⟨tk_next hJ hk3, by rw [List.length_append]; show acc2.length + 1 ≤ _; omega⟩, by rw [List.length_append]; show p.it.length - (acc2.length + 1) < p.it.length - acc2.length; omega, Zau hF [902, 1, 2, 3] rfl (rfl) ⟨rfl, rfl, rfl, rfl, trivial⟩⟩
    · refine ZaN ?_;refine Zaf ?_;have hacc2 := tk_end hJ (fun h => h36 (by omega));refine ZbS (ys := p.it.map itmD) 3 0 1 902 rfl rfl rfl (by simp) (by rw [hacc2]; exact List.take_of_length_le (by simp)) rfl rfl rfl rfl rfl rfl ?_;refine Zab ?_;refine Zaa.go (Zay rfl rfl rw35 rfl rfl rfl) ?_;refine Zal.go (ZaG rfl rfl rfl rfl rfl rfl rfl sz35) ?_;refine Zae ?_;refine Zar ?_;exact ⟨_, [], [], Zan rfl, rfl, rfl, rfl, rfl⟩
theorem sml_B {p : Prb} (h : Sml p) : PrbB p := ⟨by have := h.2.1; omega, by have := h.1; omega, fun i hi => by have := h.2.2 i hi; omega⟩
end Go.Proofs.YtnamabifclidmaaGreat
/- Layer 28: chosen sets; the rooms after a set has settled. -/
namespace Go.Proofs.YtnamabifclidmaaGreat
open Go.RowKit

def chErr (ids l : List Int) (k : Nat) : Int := if l.getD k 0 ∉ ids then 9 else if l.getD k 0 ∈ l.take k then 7 else 0
def setE (ids l : List Int) : Int := fst0 ((List.range l.length).map (chErr ids l))
def choE (p : Prb) (l : List Int) : Int := if prbE p ≠ 0 then prbE p else setE (p.it.map Itm.id) l
theorem set_ok {ids l : List Int} (h : setE ids l = 0) : l.Nodup ∧ ∀ x ∈ l, x ∈ ids := by
  have h0 := Zb3.1 h;refine ⟨List.pairwise_iff_getElem.2 fun i j hi hj hij e => ?_, fun x hx => ?_⟩
  · have := h0 j (List.mem_range.2 hj);unfold chErr at this;rw [Zbj 0 hj] at this
    split at this
    · cases this
    · split at this
      · cases this
      · rename_i hn; exact hn (by rw [← e, List.mem_take_iff_getElem]; exact ⟨i, by omega, rfl⟩)
  · obtain ⟨j, hj, rfl⟩ := List.getElem_of_mem hx;have := h0 j (List.mem_range.2 hj);unfold chErr at this;rw [Zbj 0 hj] at this
    split at this
    · cases this
    · rename_i hn; exact Decidable.not_not.1 hn
end Go.Proofs.YtnamabifclidmaaGreat
/- Layer 28: Totals. -/
namespace Go.Proofs.YtnamabifclidmaaGreat
open Go.RowKit

theorem ctrSum_cons (x : Rsc × Int) (l : List (Rsc × Int)) (r : Rsc) : ctrSum (x :: l) r = (if x.1 = r then x.2 else 0) + ctrSum l r := by simp [ctrSum]
theorem ctrSum_none {l : List (Rsc × Int)} {r : Rsc} (h : r ∉ l.map Prod.fst) : ctrSum l r = 0 := by
  induction l with
  | nil => rfl
  | cons x l ih =>
    rw [List.map_cons, List.mem_cons] at h;rw [ctrSum_cons, if_neg (fun e => h (.inl e.symm)), ih (fun h' => h (.inr h'))]; rfl
theorem lft_len {α β : Type} {m : List (α × β)} {B seen : List Nat} : (lft m B seen).length ≤ m.length := by
  unfold lft;rw [List.length_map];refine Nat.le_trans (List.length_filter_le _ _) ?_;rw [List.length_zip]; omega
theorem bnd_sum {i : Itm} (h : checkE i = 0) (r : Rsc) : -Mx ≤ ctrSum (ctr i) r ∧ ctrSum (ctr i) r ≤ Mx := by
  have hb := (check_ok h).2.2.2.2.2.2.2.2;unfold bndE at hb
  split at hb
  · cases hb
  · rename_i hn
    by_cases hr : r ∈ (sumL (ctr i)).map Prod.fst
    · obtain ⟨⟨r', v⟩, hx, e⟩ := List.mem_map.1 hr;have e : r' = r := e;subst e;have hv := ((sumL_mem _ _ _).1 hx).2;rw [← hv];exact Decidable.not_not.1 fun hh => hn ⟨_, hx, hh⟩
    · rw [ctrSum_none fun h' => hr ((sumL_keys _ r).2 h')]; simp only [Mx]; omega
theorem rooms_amt {l : List Roo} (h : roomsE l = 0) : ∀ x ∈ l, -4000000000000000 ≤ x.n ∧ x.n ≤ 4000000000000000 := fun x hx => by
  have h0 := Zb3.1 h;obtain ⟨j, hj, rfl⟩ := List.getElem_of_mem hx;have := h0 j (List.mem_range.2 hj);unfold rErr at this;rw [Zbj roo0 hj] at this
  split at this
  · contradiction
  · split at this
    · cases this
    · rename_i hn; simp only [Mx] at hn; omega
end Go.Proofs.YtnamabifclidmaaGreat
/- Layer 28: Settle. -/
namespace Go.Proofs.YtnamabifclidmaaGreat
open Go.RowKit

end Go.Proofs.YtnamabifclidmaaGreat
/- Layer 28: Settle, continued. -/
namespace Go.Proofs.YtnamabifclidmaaGreat
open Go.RowKit

set_option maxRecDepth 100000 in
theorem cloneI_c (l : List Int) (hl : l.length ≤ 1000000) : ACalls Tryz.prog 94 [.d (.sl none (l.map intD))] [] fun r H' => r = .own 20 0 l.length ∧ H' = [(20, [.rowD 3 1 (l.map intD)])] := by
  refine ZaC Tryz.func94 rfl rfl Tryz.ntmps94 rfl rfl rfl fun F hF => ?_;refine Zaf ?_;refine Zab ?_;refine Zaa.go (Zad rfl rfl) ?_;skip;refine Zae ?_;refine Zaf ?_;refine Zaf ?_;refine Zab ?_;refine Zaa.go (Zac rfl rfl) ?_;refine o_nilSplit 3 rfl (fun h0 => ?_) ?_
  · first | refine Zaa.go (ZaZ rfl rfl rfl) ?_ | refine Zaa.go (ZaY rfl rfl rfl) ?_ | refine Zaa.go (ZbF rfl rfl rfl) ?_ | refine Zaa.go (ZbL Tryz.underlying26 rfl rfl rfl) ?_ | refine Zaa.go (ZbI Tryz.underlying26 rfl rfl rfl) ?_ | refine Zaa.go (ZbJ Tryz.underlying26 rfl rfl) ?_ | refine Zaa.go (ZbK Tryz.underlying26 rfl rfl rfl) ?_ | refine Zaa.go (ZbD Tryz.underlying26 rfl rfl) ?_
    refine Zae ?_;refine ZaQ rfl (rfl) ?_;refine Zaf ?_;refine Zab ?_;refine Zaa.go (Zad rfl rfl) ?_;refine o_adopt 2 20 sl26 rfl rfl rfl rfl ?_;refine Zae ?_;refine Zar ?_;exact ⟨_, [20], _, Zan rfl, rfl, rfl, by rw [← List.length_map (f := intD), h0]; rfl, by rw [h0]⟩
  · first | refine Zaa.go (ZaZ rfl rfl rfl) ?_ | refine Zaa.go (ZaY rfl rfl rfl) ?_ | refine Zaa.go (ZbF rfl rfl rfl) ?_ | refine Zaa.go (ZbL Tryz.underlying26 rfl rfl rfl) ?_ | refine Zaa.go (ZbI Tryz.underlying26 rfl rfl rfl) ?_ | refine Zaa.go (ZbJ Tryz.underlying26 rfl rfl) ?_ | refine Zaa.go (ZbK Tryz.underlying26 rfl rfl rfl) ?_ | refine Zaa.go (ZbD Tryz.underlying26 rfl rfl) ?_
    refine Zae ?_;refine Za2 rfl (rfl) ?_;refine Zap ?_;refine Zaf ?_;refine Zab ?_;refine Zal.go (ZaB 20 sl26 rfl rfl rfl rfl rfl rfl rfl rfl) ?_;refine Zaa.go (Zac rfl rfl) ?_
    first | refine Zal.go (Za5 (([] : List Int)) (l) rfl rfl rfl rfl rfl rfl rfl rfl sl26 (by simp only [List.length_nil]; omega) rfl rfl rfl rfl) ?_ | refine Zal.go (Za6 (([] : List Int)) (l) rfl rfl rfl rfl rfl rfl (fun _ => rfl) sl26 (by simp only [List.length_nil]; omega) rfl rfl rfl rfl) ?_
    refine Zaa.go (Zad rfl rfl) ?_;skip;refine Zae ?_;refine Zar ?_;exact ⟨_, [20], _, Zan rfl, rfl, rfl, by simp, by simp⟩
end Go.Proofs.YtnamabifclidmaaGreat
/- Layer 28: the reference's Totals and Settle; conversion back. -/
namespace Go.Proofs.YtnamabifclidmaaGreat
open Go.RowKit

def itmOf (p : Prb) (id : Int) : Itm := p.it.getD ((p.it.map Itm.id).idxOf id) itm0
theorem itmOf_at {p : Prb} {id : Int} (h : id ∈ p.it.map Itm.id) : ∃ hk : (p.it.map Itm.id).idxOf id < p.it.length, ixI id (p.it.map Itm.id) = (((p.it.map Itm.id).idxOf id : Nat) : Int) ∧ itmOf p id = p.it[(p.it.map Itm.id).idxOf id] ∧ (itmOf p id).id = id := by
  have hk : (p.it.map Itm.id).idxOf id < (p.it.map Itm.id).length := List.idxOf_lt_length_iff.2 h;have hk' : (p.it.map Itm.id).idxOf id < p.it.length := by simpa using hk
  have he : itmOf p id = p.it[(p.it.map Itm.id).idxOf id] := Zbj itm0 hk';refine ⟨hk', if_pos h, he, ?_⟩;have h1 := List.getElem_idxOf hk;rw [List.getElem_map] at h1;rw [he]; exact h1
theorem perm_sum {α : Type} {l m : List α} (h : l.Perm m) (f : α → Int) : (l.map f).sum = (m.map f).sum := by
  induction h with
  | nil => rfl
  | cons x _ ih => simp [ih]
  | swap x y l => simp; omega
  | trans _ _ ih1 ih2 => rw [ih1, ih2]
end Go.Proofs.YtnamabifclidmaaGreat
