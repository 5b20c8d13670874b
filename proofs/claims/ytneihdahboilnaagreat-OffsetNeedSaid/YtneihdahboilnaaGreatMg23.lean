/- Layer 28: the reference's order of items; conversion back. -/
import Derived.Test.YtneihdahboilnaaGreatMg22
namespace Go.Proofs.YtneihdahboilnaaGreat
open Go.RowKit

def insO : List Itm → Itm → List Itm
  | [], x => [x]
  | a :: l, x => if ∀ y ∈ a :: l, ordI x y < 0 then x :: a :: l else a :: insO l x
theorem insO_at : ∀ {l : List Itm} {x : Itm} {k : Nat}, k ≤ l.length → (∀ y ∈ l.drop k, ordI x y < 0) → (∀ (_ : 0 < k) y, l[k - 1]? = some y → ¬ ordI x y < 0) → insO l x = (l.take k ++ [x]) ++ l.drop k
  | [], x, 0, _, _, _ => rfl
  | [], x, k + 1, h, _, _ => by simp at h
  | a :: l, x, 0, _, h, _ => by simp only [insO]; rw [if_pos (by simpa using h)]; rfl
  | a :: l, x, k + 1, hk, h, h2 => by
    have hk' : k ≤ l.length := by simpa using hk
    have hl : k < (a :: l).length := Nat.lt_succ_of_le hk';have hn : ¬ ∀ y ∈ a :: l, ordI x y < 0 := fun hall => h2 (by omega) _ (List.getElem?_eq_getElem hl) (hall _ (List.getElem_mem hl));simp only [insO]
    rw [if_neg hn, insO_at (k := k) hk' (by simpa using h) fun h0 y hy => h2 (by omega) y (by
      obtain ⟨m, rfl⟩ : ∃ m, k = m + 1 := ⟨k - 1, by omega⟩
      simpa using hy)]
    simp
def sortO (l : List Itm) : List Itm := l.foldl insO []
theorem insO_len (l : List Itm) (x : Itm) : (insO l x).length = l.length + 1 := by
  induction l with
  | nil => rfl
  | cons a l ih =>
    simp only [insO]; split
    · rfl
    · simp only [List.length_cons, ih]
theorem sortO_snoc (l : List Itm) (x : Itm) : sortO (l ++ [x]) = insO (sortO l) x := by simp [sortO]
theorem Zcb (l : List Itm) : (sortO l).length = l.length := by
  induction l using ZcJ with
  | h0 => rfl
  | h1 l x ih => rw [sortO_snoc, insO_len, ih]; simp
set_option maxRecDepth 100000 in
theorem refsorted_p (l : List Itm) (hl : l.length ≤ 1000) : PCalls Tryz.prog 58 [.d (.sl none (l.map itmD))] (.sl none ((sortO l).map itmD)) := by
  refine ZaI Tryz.func58 rfl rfl Tryz.ntmps58 rfl rfl rfl fun F hF => (Zag ?_);refine Zab (Zaa.go (Zad rfl rfl) (Zaf (Zag (Zab (Zaa.go (Zad rfl rfl) (Zaf (Zag (Zag ?_))))))));refine a_anyNil 3 rfl ?_;refine Zab (Zaa.go (Zad rfl rfl) (Zaf (Zat (ZaO (α := Nat × List Itm) (fun q => ⟨49, [(0, .d (.sl none (l.map itmD))), (3, (.d (.sl none (q.2.map itmD)))), (4, (.d (intD (q.1 : Int))))], []⟩) (fun q => q.1 ≤ l.length ∧ q.2 = sortO (l.take q.1)) (fun q => l.length - q.1) ((0, [])) (⟨Nat.zero_le _, rfl⟩) (Zaw hF [] rfl rfl ⟨rfl, rfl, rfl, trivial⟩) ?_))));rintro ⟨k, out⟩ ⟨hk0, hO⟩;dsimp only at hk0 hO ⊢;refine Zag (Zag (Zab (Zaa.go (Zac rfl rfl) (Zaa.go (Zac rfl rfl) (Zaa.go (ZaD rfl Tryz.underlying23 rfl) (Zaa.go (ZaM rfl rfl rfl) (Zaf (ZaK rfl (fun h10 => ?_) (fun h10 => ?_)))))))))
  · have hk1 : k < l.length := ZaP h10;refine Zas (Zag (Zat (Zag ?_)));have hol : out.length ≤ 1000 := by rw [hO, Zcb, List.length_take]; omega
    refine Zab (Zaa.go (Zac rfl rfl) (Zaa.go (ZaD rfl Tryz.underlying23 rfl) (Zaa.go (Zad rfl rfl) (Zaf (Zag (Zat (ZaO (α := Nat) (fun m => ⟨49, [(0, .d (.sl none (l.map itmD))), (3, (.d (.sl none (out.map itmD)))), (4, (.d (intD (k : Int)))), (5, (.d (intD (m : Int))))], []⟩) (fun m => m ≤ out.length ∧ ∀ y ∈ out.drop m, ordI l[k] y < 0) (fun m => m) (out.length) (⟨Nat.le_refl _, by simp⟩) (Zaw hF [] rfl rfl ⟨rfl, rfl, rfl, rfl, trivial⟩) ?_)))))));rintro m ⟨hm0, hm⟩;refine Zag (Zag (Za2 [[], [0], [0, 1], [0, 1, 2], [0, 1, 2], [0, 1, 2, 3, 4], [0, 1, 2, 3, 4, 5], [0, 1, 2], [0, 1, 2], [0, 1, 2, 8], [0, 1, 2, 7, 8, 9], [0, 1, 2, 7, 8, 9, 10], [0, 1, 2, 3, 4, 5, 6, 7, 8, 9, 10, 11], [0, 1, 2, 3, 4, 5, 6, 7, 8, 9, 10, 11, 12]] mixed rfl (dw1 1 rfl rfl (Zaa.go (Zac rfl rfl) (Zaf ⟨rfl, ?_⟩)))));refine dw1 2 rfl rfl (Zaa.go (ZbJ rfl rfl rfl) (Zaf ⟨rfl, ?_⟩));refine dw1 3 rfl rfl (Zaa.go (Zac rfl rfl) (Za3 17 rfl (fun h17 => ?_) (fun h17 => ?_)))
    · refine Zaf ⟨rfl, ?_⟩;refine dws ?_
      try have hm1 : m - 1 < out.length := by have h := h17; omega
      refine Zah [0, 17] [] rfl rfl (fun _ => ZaV rfl rfl rfl (Zac rfl rfl)) (Zah [4, 17] [] rfl rfl (fun _ => ZaV rfl rfl rfl (Zac rfl rfl)) (Zah [18, 19, 17] [] rfl rfl (fun _ => ZaV rfl rfl rfl (Zay (k) rfl rfl (rfl) (getm hk1) Tryz.underlying23 rfl sz64 rfl)) (Zah [20, 17] [] rfl rfl (fun _ => ZaV rfl rfl rfl (ZaE rfl rfl rw64 rfl)) (Zah [3, 17] [] rfl rfl (fun _ => ZaV rfl rfl rfl (Zac rfl rfl)) ?_))));refine Zah [5, 17] [] rfl rfl (fun _ => ZaV rfl rfl rfl (Zac rfl rfl)) (Zah [23, 17] [] rfl rfl (fun _ => ZaV rfl rfl rfl (st_sub rfl rfl (show IntKind.i64.wrap ((m : Int) - 1) = ((m - 1 : Nat) : Int) from by rw [show ((m - 1 : Nat) : Int) = (m : Int) - 1 by omega]; exact IntWalk.i64_in _ (by omega)) rfl)) (Zah [22, 24, 17] [] rfl rfl (fun _ => ZaV rfl rfl rfl (Zay (m - 1) rfl rfl (rfl) (getm hm1) Tryz.underlying23 rfl sz64 rfl)) (Zah [25, 17] [] rfl rfl (fun _ => ZaV rfl rfl rfl (ZaE rfl rfl rw64 rfl)) (dwc 12 rfl rfl rfl (dw1 13 rfl rfl (Zal rfl rfl rfl (Zaa.go (Zan (refbefore_p l[k] out[m - 1]) rfl rfl) (Zaf ⟨rfl, ?_⟩))))))));refine dw1 14 rfl rfl (Zaa.go (ZaB rfl rfl rfl rfl) (Zaf ⟨rfl, ?_⟩));refine dwe (ZaK rfl (fun h28 => ?_) (fun h28 => ?_))
      · refine Zas (Zat (Zab (Zaa.go (Zac rfl rfl) (Zaa.go (st_sub rfl rfl (show IntKind.i64.wrap ((m : Int) - 1) = ((m - 1 : Nat) : Int) from by rw [show ((m - 1 : Nat) : Int) = (m : Int) - 1 by omega]; exact IntWalk.i64_in _ (by omega)) rfl) (Zaa.go (Zad rfl rfl) (Zaf ?_))))));exact ⟨m - 1, ⟨by show m - 1 ≤ _; omega, by rw [List.drop_eq_getElem_cons hm1]; intro y hy; rcases List.mem_cons.1 hy with hy | hy; rw [hy]; exact h28; exact hm y (by rw [show m - 1 + 1 = m by omega] at hy; exact hy)⟩, by show m - 1 < m; omega, Zaw hF [] rfl (rfl) ⟨rfl, rfl, rfl, rfl, trivial⟩⟩
      · refine ZaQ (Zag ?_);have hstop : ∀ (h : 0 < m) y, out[m - 1]? = some y → ¬ ordI l[k] y < 0 := by first | (intro h y hy; exact absurd h (by omega)) | (intro h y hy; rw [List.getElem?_eq_getElem hm1] at hy; injection hy with hy; rw [← hy]; exact h28)
        refine Zab (Zam.go (ZaJ 20 sl23 rfl rfl rfl rfl rfl rfl rfl rfl) (Zaa.go (Zac rfl rfl) (Zaa.go (Zac rfl rfl) (Zaa.go (Zcj (out) (m) rfl rfl rfl (rfl) (by omega) Tryz.underlying23 sz64 (fun _ => rfl) rfl) (Zam.go (Zbr (([] : List Itm)) (out.take m) rfl rfl rfl rfl rfl rfl (fun _ => rfl) sl23 (by simp only [List.length_nil, List.length_take]; omega) rfl rfl rfl rfl) (Zaa.go (Zad rfl rfl) ?_))))));refine Zaf (Zag (Zab (Zaa.go (Zac rfl rfl) (Zaa.go (Zac rfl rfl) (Zaa.go (Zac rfl rfl) (Zaa.go (Zay (k) rfl rfl (rfl) (getm hk1) Tryz.underlying23 rfl sz64 rfl) (Zaa.go (ZaE rfl rfl rw64 rfl) (Zam.go (ZaJ 21 sl23 rfl rfl rfl rfl rfl rfl rfl rfl) ?_))))))));refine Zam.go (Zbd (([] ++ out.take m)) ([l[k]]) rfl rfl rfl rfl rfl rfl rfl rfl sl23 (by simp only [List.nil_append, List.length_singleton, List.length_take]; omega) rfl rfl rfl rfl) ?_;refine Zaa.go (Zad rfl rfl) (Zaf (Zab (Zaa.go (Zac rfl rfl) (Zaa.go (Zac rfl rfl) (Zaa.go (Zac rfl rfl) (Zaa.go (Zc1 (out) (m) rfl rfl rfl (rfl) (by omega) Tryz.underlying23 sz64 (fun _ => rfl) rfl) ?_))))));refine Zam.go (Zbr ((([] ++ out.take m) ++ [l[k]])) (out.drop m) rfl rfl rfl rfl rfl rfl (fun _ => rfl) sl23 (by simp only [List.nil_append, List.length_append, List.length_singleton, List.length_take, List.length_drop]; omega) rfl rfl rfl rfl) ?_;refine ZcF (emb := itmD) 47 20 ((([] ++ out.take m) ++ [l[k]]) ++ out.drop m) rfl rfl rfl rfl rfl rfl rfl (Zaa.go (Zad rfl rfl) (Zaf (Zab (Zaa.go (Zac rfl rfl) (Zaa.go (ZaG rfl rfl (wrapS (k + 1) (by omega)) rfl) (Zaa.go (Zad rfl rfl) (Zaf ?_)))))));exact ⟨(k + 1, _), ⟨by show k + 1 ≤ _; omega, by show _ = sortO (l.take (k + 1)); rw [List.take_succ_eq_append_getElem hk1, sortO_snoc, ← hO, insO_at hm0 hm hstop]; rfl⟩, by show l.length - (k + 1) < l.length - k; omega, Zaw hF [] rfl (rfl) ⟨rfl, rfl, rfl, trivial⟩⟩
    · refine Zaf ⟨rfl, ?_⟩;refine dws ?_
      try have hm1 : m - 1 < out.length := by have h := h17; omega
      refine Zah [0, 17] [] rfl rfl (fun _ => Za4 rfl rfl rfl rfl) (Zah [4, 17] [] rfl rfl (fun _ => Za4 rfl rfl rfl rfl) (Zah [18, 19, 17] [] rfl rfl (fun _ => Za4 rfl rfl rfl rfl) (Zah [20, 17] [] rfl rfl (fun _ => Za4 rfl rfl rfl rfl) ?_)));refine Zah [3, 17] [] rfl rfl (fun _ => Za4 rfl rfl rfl rfl) (Zah [5, 17] [] rfl rfl (fun _ => Za4 rfl rfl rfl rfl) (Zah [23, 17] [] rfl rfl (fun _ => Za4 rfl rfl rfl rfl) (Zah [22, 24, 17] [] rfl rfl (fun _ => Za4 rfl rfl rfl rfl) (Zah [25, 17] [] rfl rfl (fun _ => Za4 rfl rfl rfl rfl) (dwc 12 rfl rfl rfl (dw1 13 rfl rfl (Zak rfl rfl rfl rfl (Zaf ⟨rfl, ?_⟩))))))));refine dw1 14 rfl rfl (Zaa.go (ZaH rfl rfl rfl rfl) (Zaf ⟨rfl, ?_⟩));refine dwe (Za1 rfl rfl (ZaQ (Zag ?_)));have hstop : ∀ (h : 0 < m) y, out[m - 1]? = some y → ¬ ordI l[k] y < 0 := by first | (intro h y hy; exact absurd h (by omega)) | (intro h y hy; rw [List.getElem?_eq_getElem hm1] at hy; injection hy with hy; rw [← hy]; exact h28)
      refine Zab (Zam.go (ZaJ 20 sl23 rfl rfl rfl rfl rfl rfl rfl rfl) (Zaa.go (Zac rfl rfl) (Zaa.go (Zac rfl rfl) (Zaa.go (Zcj (out) (m) rfl rfl rfl (rfl) (by omega) Tryz.underlying23 sz64 (fun _ => rfl) rfl) (Zam.go (Zbr (([] : List Itm)) (out.take m) rfl rfl rfl rfl rfl rfl (fun _ => rfl) sl23 (by simp only [List.length_nil, List.length_take]; omega) rfl rfl rfl rfl) (Zaa.go (Zad rfl rfl) ?_))))));refine Zaf (Zag (Zab (Zaa.go (Zac rfl rfl) (Zaa.go (Zac rfl rfl) (Zaa.go (Zac rfl rfl) (Zaa.go (Zay (k) rfl rfl (rfl) (getm hk1) Tryz.underlying23 rfl sz64 rfl) (Zaa.go (ZaE rfl rfl rw64 rfl) (Zam.go (ZaJ 21 sl23 rfl rfl rfl rfl rfl rfl rfl rfl) ?_))))))));refine Zam.go (Zbd (([] ++ out.take m)) ([l[k]]) rfl rfl rfl rfl rfl rfl rfl rfl sl23 (by simp only [List.nil_append, List.length_singleton, List.length_take]; omega) rfl rfl rfl rfl) ?_;refine Zaa.go (Zad rfl rfl) (Zaf (Zab (Zaa.go (Zac rfl rfl) (Zaa.go (Zac rfl rfl) (Zaa.go (Zac rfl rfl) (Zaa.go (Zc1 (out) (m) rfl rfl rfl (rfl) (by omega) Tryz.underlying23 sz64 (fun _ => rfl) rfl) ?_))))));refine Zam.go (Zbr ((([] ++ out.take m) ++ [l[k]])) (out.drop m) rfl rfl rfl rfl rfl rfl (fun _ => rfl) sl23 (by simp only [List.nil_append, List.length_append, List.length_singleton, List.length_take, List.length_drop]; omega) rfl rfl rfl rfl) ?_;refine ZcF (emb := itmD) 47 20 ((([] ++ out.take m) ++ [l[k]]) ++ out.drop m) rfl rfl rfl rfl rfl rfl rfl (Zaa.go (Zad rfl rfl) (Zaf (Zab (Zaa.go (Zac rfl rfl) (Zaa.go (ZaG rfl rfl (wrapS (k + 1) (by omega)) rfl) (Zaa.go (Zad rfl rfl) (Zaf ?_)))))));exact ⟨(k + 1, _), ⟨by show k + 1 ≤ _; omega, by show _ = sortO (l.take (k + 1)); rw [List.take_succ_eq_append_getElem hk1, sortO_snoc, ← hO, insO_at hm0 hm hstop]; rfl⟩, by show l.length - (k + 1) < l.length - k; omega, Zaw hF [] rfl (rfl) ⟨rfl, rfl, rfl, trivial⟩⟩
  · refine ZaQ (Zag (Zab (Zaa.go (Zac rfl rfl) (Zaa.go (Zad rfl rfl) (Zaf (Zav ?_))))));exact ⟨_, [], [], Zaq rfl, rfl, rfl, by rw [hO, List.take_of_length_le (by have h := h10; omega)], rfl⟩
def qIds (l : List Itm) (r : Rsc) : List Int := (l.filter fun i => decide (dltE i r < 0)).map Itm.id
set_option maxRecDepth 100000 in
theorem refqueue_p (p : Prb) (r : Rsc) (g2 : p.it.length ≤ 1000) (g3 : ∀ i ∈ sortO p.it, i.po.length ≤ 1000 ∧ i.pa.length ≤ 1000 ∧ i.af.length ≤ 1000) : PCalls Tryz.prog 71 [.d (prbD p), .d (rscD r)] (.sl none ((qIds (sortO p.it) r).map intD)) := by
  obtain ⟨S, hS⟩ : ∃ S, sortO p.it = S := ⟨_, rfl⟩
  have hso := refsorted_p p.it g2;have hSl : S.length ≤ 1000 := by rw [← hS, Zcb]; exact g2
  rw [hS] at hso g3 ⊢;refine ZaI Tryz.func71 rfl rfl Tryz.ntmps71 rfl rfl rfl fun F hF => (Zag (Zab (Zam.go (ZaS 1 rfl rfl rfl rfl rfl rfl rfl) (Zam.go (ZaS 2 rfl rfl rfl rfl rfl rfl rfl) (Zaa.go (Zad rfl rfl) (Zaf (Zag ?_)))))));refine Zab (Zaa.go (Zad rfl rfl) (Zaf (Zag (Zab (Zaa.go (Zai rfl ZaU rfl rfl rfl) (Zaa.go (Zaj rfl rfl rfl on23 rfl) (Zaa.go (Zan (hso) rfl rfl) (Zaa.go (Zad rfl rfl) ?_))))))));refine Zaf (Zag (Zag (Zca 5 900 sl28 rfl rfl rfl rfl (Zab (Zaa.go (Zad rfl rfl) (Zaf (Zat (ZaO (α := Nat × List Int) (fun q => ⟨33, [(3, (.ptr 2 0 0)), (5, (.own 900 0 q.2.length)), (6, (.d (.sl none (S.map itmD)))), (7, (.d (intD (q.1 : Int))))], [(2, [.blk 56 [.d (intD r.k), .d (strD r.acc.o), .d (intD r.acc.k), .d (strD r.acc.a), .d (strD r.f), .d (strD r.t)]]), (900, [.rowD 3 1 (q.2.map intD)])]⟩) (fun q => q.1 ≤ S.length ∧ q.2 = qIds (S.take q.1) r) (fun q => S.length - q.1) ((0, [])) (⟨Nat.zero_le _, rfl⟩) (Zaw hF [2, 900] rfl rfl ⟨rfl, rfl, rfl, rfl, trivial⟩) ?_))))))));rintro ⟨k, acc⟩ ⟨hk0, hA⟩;dsimp only at hk0 hA ⊢;refine Zag (Zag (Zab (Zaa.go (Zac rfl rfl) (Zaa.go (Zac rfl rfl) (Zaa.go (ZaD rfl Tryz.underlying23 rfl) (Zaa.go (ZaM rfl rfl rfl) (Zaf (ZaK rfl (fun h14 => ?_) (fun h14 => ?_)))))))))
  · have hk1 : k < S.length := ZaP h14;refine Zas (Zag (Zat (Zag (Za2 [[], [], [0, 1], [0, 1, 2], [], [0, 1, 2, 3, 4], [0, 1, 2, 3, 4, 5]] mixed rfl (dws ?_)))));have hgi := g3 _ (List.getElem_mem hk1);have hal : acc.length ≤ 1000 := by rw [hA]; unfold qIds; rw [List.length_map]; have := List.length_filter_le (fun i => decide (dltE i r < 0)) (S.take k); rw [List.length_take] at this; omega
    refine Zah [6] [] rfl rfl (fun _ => Zae (Zac rfl rfl)) (Zah [7] [] rfl rfl (fun _ => Zae (Zac rfl rfl)) (Zah [17, 18] [] rfl rfl (fun _ => Zae (Zay (k) rfl rfl (rfl) (getm hk1) Tryz.underlying23 rfl sz64 rfl)) (Zah [19] [] rfl rfl (fun _ => Zae (ZaE rfl rfl rw64 rfl)) (Zao [3] rfl rfl (fun _ => Zae (Zap rfl rfl rw56 rfl rfl rfl)) (dwc 5 rfl rfl rfl (dw1 6 rfl rfl (Zaa.go (Zan (refdelta_p S[k] r hgi.1 hgi.2.1 hgi.2.2) rfl rfl) (Zaf ⟨rfl, ?_⟩))))))));refine dw1 7 rfl rfl (Zaa.go (ZaM rfl rfl rfl) (Zaf ⟨rfl, ?_⟩));refine dwe (ZaK rfl (fun h23 => ?_) (fun h23 => ?_))
    · refine Zab (Zaa.go (Zac rfl rfl) (Zaa.go (Zac rfl rfl) (Zaa.go (Zac rfl rfl) (Zaa.go (Zay (k) rfl rfl (rfl) (getm hk1) Tryz.underlying23 rfl sz64 rfl) (Zaa.go (Zau rfl Zb1 rfl rfl rfl) (Zaa.go (Zaz rfl rfl on3 rfl) ?_))))));refine Zam.go (ZaJ 3 sl28 rfl rfl rfl rfl rfl rfl rfl rfl) (Zam.go (Zbd (acc) ([S[k].id]) rfl rfl rfl rfl rfl rfl rfl rfl sl28 (by simp only [List.length_singleton]; omega) rfl rfl rfl rfl) (Zaa.go (Zad rfl rfl) (Zaf (Zab (Zaa.go (Zac rfl rfl) (Zaa.go (ZaG rfl rfl (wrapS (k + 1) (by omega)) rfl) (Zaa.go (Zad rfl rfl) (Zaf ?_))))))));exact ⟨(k + 1, _), ⟨by show k + 1 ≤ _; omega, by show _ = qIds (S.take (k + 1)) r; unfold qIds; rw [ZcC hk1, if_pos (by simpa using h23), List.map_append, hA]; rfl⟩, by show S.length - (k + 1) < S.length - k; omega, Zaw hF [2, 900] rfl (rfl) ⟨rfl, rfl, rfl, rfl, trivial⟩⟩
    · refine Zas (Zab (Zaa.go (Zac rfl rfl) (Zaa.go (ZaG rfl rfl (wrapS (k + 1) (by omega)) rfl) (Zaa.go (Zad rfl rfl) (Zaf ?_)))));exact ⟨(k + 1, _), ⟨by show k + 1 ≤ _; omega, by show _ = qIds (S.take (k + 1)) r; unfold qIds; rw [ZcC hk1, if_neg (by simpa using h23), List.append_nil, hA]; rfl⟩, by show S.length - (k + 1) < S.length - k; omega, Zaw hF [2, 900] rfl (rfl) ⟨rfl, rfl, rfl, rfl, trivial⟩⟩
  · refine ZaQ (Zag (ZbC (emb := intD) 5 900 acc rfl rfl rfl rfl rfl rfl rfl (Zab (Zaa.go (Zac rfl rfl) (Zaa.go (Zad rfl rfl) (Zaf (Zav ?_)))))));exact ⟨_, [], [], Zaq rfl, rfl, rfl, by rw [hA, List.take_of_length_le (by have h := h14; omega)], rfl⟩
end Go.Proofs.YtneihdahboilnaaGreat

/- Layer 28: a problem's room. -/
namespace Go.Proofs.YtneihdahboilnaaGreat
open Go.RowKit

end Go.Proofs.YtneihdahboilnaaGreat

/- Layer 28: copies of items. -/
namespace Go.Proofs.YtneihdahboilnaaGreat
open Go.RowKit

set_option maxRecDepth 100000 in
theorem cloneP_p (l : List Post) (hl : l.length ≤ 1000000) : PCalls Tryz.prog 106 [.d (.sl none (l.map postD))] (.sl none (l.map postD)) := by
  refine ZaI Tryz.func106 rfl rfl Tryz.ntmps106 rfl rfl rfl fun F hF => (Zag ?_);refine Zab (Zaa.go (Zad rfl rfl) (ZcB 2 rfl (Zaf (Zag (Zag (Zab (Zaa.go (Zac rfl rfl) (o_nilSplit 3 rfl (fun h0 => ?_) ?_))))))))
  · refine Zaa.go (st_eqlN Tryz.underlying88 rfl rfl) (Zaf (ZaW rfl (rfl) (Zag (Zab (Zaa.go (Zad rfl rfl) (ZcB 2 rfl (Zaf (Zav ?_))))))));exact ⟨_, [], [], Zaq rfl, rfl, rfl, by first | (rw [h0]; done) | (rw [h0]), rfl⟩
  · refine Zaa.go (st_eqlN Tryz.underlying88 rfl rfl) (Zaf ?_);refine Za1 rfl (rfl) (Zas (Zag (Zab (Zam.go (ZaJ 20 sl88 rfl rfl rfl rfl rfl rfl rfl rfl) (Zaa.go (Zac rfl rfl) (Zam.go (Zbr (([] : List Post)) (l) rfl rfl rfl rfl rfl rfl (fun _ => rfl) sl88 (by simp only [List.length_nil]; omega) rfl rfl rfl rfl) (ZcF (emb := postD) 7 20 ([] ++ l) rfl rfl rfl rfl rfl rfl rfl (Zaa.go (Zad rfl rfl) ?_))))))));skip;refine Zaf (Zav ?_);exact ⟨_, [], [], Zaq rfl, rfl, rfl, rfl, rfl⟩
set_option maxRecDepth 100000 in
theorem cloneY_p (l : List Pay) (hl : l.length ≤ 1000000) : PCalls Tryz.prog 107 [.d (.sl none (l.map payD))] (.sl none (l.map payD)) := by
  refine ZaI Tryz.func107 rfl rfl Tryz.ntmps107 rfl rfl rfl fun F hF => (Zag ?_);refine Zab (Zaa.go (Zad rfl rfl) (ZcB 2 rfl (Zaf (Zag (Zag (Zab (Zaa.go (Zac rfl rfl) (o_nilSplit 3 rfl (fun h0 => ?_) ?_))))))))
  · refine Zaa.go (st_eqlN Tryz.underlying89 rfl rfl) (Zaf (ZaW rfl (rfl) (Zag (Zab (Zaa.go (Zad rfl rfl) (ZcB 2 rfl (Zaf (Zav ?_))))))));exact ⟨_, [], [], Zaq rfl, rfl, rfl, by first | (rw [h0]; done) | (rw [h0]), rfl⟩
  · refine Zaa.go (st_eqlN Tryz.underlying89 rfl rfl) (Zaf ?_);refine Za1 rfl (rfl) (Zas (Zag (Zab (Zam.go (ZaJ 20 sl89 rfl rfl rfl rfl rfl rfl rfl rfl) (Zaa.go (Zac rfl rfl) (Zam.go (Zbr (([] : List Pay)) (l) rfl rfl rfl rfl rfl rfl (fun _ => rfl) sl89 (by simp only [List.length_nil]; omega) rfl rfl rfl rfl) (ZcF (emb := payD) 7 20 ([] ++ l) rfl rfl rfl rfl rfl rfl rfl (Zaa.go (Zad rfl rfl) ?_))))))));skip;refine Zaf (Zav ?_);exact ⟨_, [], [], Zaq rfl, rfl, rfl, rfl, rfl⟩
set_option maxRecDepth 100000 in
theorem cloneI_p (l : List Int) (hl : l.length ≤ 1000000) : PCalls Tryz.prog 108 [.d (.sl none (l.map intD))] (.sl none (l.map intD)) := by
  refine ZaI Tryz.func108 rfl rfl Tryz.ntmps108 rfl rfl rfl fun F hF => (Zag ?_);refine Zab (Zaa.go (Zad rfl rfl) (ZcB 2 rfl (Zaf (Zag (Zag (Zab (Zaa.go (Zac rfl rfl) (o_nilSplit 3 rfl (fun h0 => ?_) ?_))))))))
  · refine Zaa.go (st_eqlN Tryz.underlying28 rfl rfl) (Zaf (ZaW rfl (rfl) (Zag (Zab (Zaa.go (Zad rfl rfl) (ZcB 2 rfl (Zaf (Zav ?_))))))));exact ⟨_, [], [], Zaq rfl, rfl, rfl, by first | (rw [h0]; done) | (rw [h0]), rfl⟩
  · refine Zaa.go (st_eqlN Tryz.underlying28 rfl rfl) (Zaf ?_);refine Za1 rfl (rfl) (Zas (Zag (Zab (Zam.go (ZaJ 20 sl28 rfl rfl rfl rfl rfl rfl rfl rfl) (Zaa.go (Zac rfl rfl) (Zam.go (Zbr (([] : List Int)) (l) rfl rfl rfl rfl rfl rfl (fun _ => rfl) sl28 (by simp only [List.length_nil]; omega) rfl rfl rfl rfl) (ZcF (emb := intD) 7 20 ([] ++ l) rfl rfl rfl rfl rfl rfl rfl (Zaa.go (Zad rfl rfl) ?_))))))));skip;refine Zaf (Zav ?_);exact ⟨_, [], [], Zaq rfl, rfl, rfl, rfl, rfl⟩
set_option maxRecDepth 100000 in
theorem clone_p (i : Itm) (g1 : i.po.length ≤ 1000000) (g2 : i.pa.length ≤ 1000000) (g3 : i.af.length ≤ 1000000) : PCalls Tryz.prog 89 [.d (itmD i)] (itmD i) := by
  refine ZaI Tryz.func89 rfl rfl Tryz.ntmps89 rfl rfl rfl fun F hF => (Zag (Zab (Zam.go (ZaS 1 rfl rfl rfl rfl rfl rfl rfl) (Zam.go (ZaX 2 zl91 rfl rfl rfl rfl) ?_))));refine Zaf (Zag (Za2 [[], [0], [0, 1], [], [3], [0, 1, 2, 3, 4], [], [6], [0, 1, 2, 3, 4, 5, 6, 7], [0, 1, 2, 3, 4, 6, 7], [0, 1, 2, 3, 4, 5, 6, 7, 8, 9], [0, 1, 2, 3, 4, 5, 6, 7, 8, 9, 10], [0, 1, 2, 3, 4, 5, 6, 7, 8, 9, 10, 11], [0, 1, 2, 3, 4, 5, 6, 7, 8, 9, 10, 11, 12], [0, 1, 2, 3, 4, 5, 6, 7, 8, 9, 10, 11, 12, 13]] mixed rfl (dws (Zah [1] [] rfl rfl (fun _ => Zae (Zai rfl fi91_3 rfl rfl rfl)) (Zah [3] [1] rfl rfl (fun _ => Zae (Zaj rfl rfl rfl on88 rfl)) (Zah [4] [] rfl rfl (fun _ => Zae (Zan (cloneP_p i.po g1) rfl rfl)) (Zah [1] [] rfl rfl (fun _ => Zae (Zai rfl fi91_4 rfl rfl rfl)) (Zah [6] [1] rfl rfl (fun _ => Zae (Zaj rfl rfl rfl on89 rfl)) ?_))))))));refine Zah [7] [] rfl rfl (fun _ => Zae (Zan (cloneY_p i.pa g2) rfl rfl)) (Zah [1] [] rfl rfl (fun _ => Zae (Zai rfl fi91_5 rfl rfl rfl)) (Zah [9] [1] rfl rfl (fun _ => Zae (Zaj rfl rfl rfl on28 rfl)) (Zah [10] [] rfl rfl (fun _ => Zae (Zan (cloneI_p i.af g3) rfl rfl)) (Zah [1] [] rfl rfl (fun _ => Zae (Zai rfl fi91_3 rfl rfl rfl)) (dwc 10 rfl rfl rfl (dw1 11 rfl rfl (Zam.go (ZaF rfl rfl rfl rfl rfl rfl rfl sz88) (Zaf ⟨rfl, ?_⟩))))))));refine dw1 12 rfl rfl (Zaa.go (Zai rfl fi91_4 rfl rfl rfl) (Zaf ⟨rfl, ?_⟩));refine dw1 13 rfl rfl (Zam.go (ZaF rfl rfl rfl rfl rfl rfl rfl sz89) (Zaf ⟨rfl, ?_⟩));refine dw1 14 rfl rfl (Zaa.go (Zai rfl fi91_5 rfl rfl rfl) (Zaf ⟨rfl, ?_⟩));refine dw1 15 rfl rfl (Zam.go (ZaF rfl rfl rfl rfl rfl rfl rfl sz28) (Zaf ⟨rfl, ?_⟩));refine dwe (Zag (Zab (Zaa.go (Zap rfl rfl rw91 rfl rfl rfl) (Zam.go (ZaF rfl rfl rfl rfl rfl rfl rfl sz91) (Zaf (Zav ?_))))));exact ⟨_, [], [], Zaq rfl, rfl, rfl, rfl, rfl⟩
end Go.Proofs.YtneihdahboilnaaGreat
/- Layer 28: what slices.Values feeds to a loop. -/
namespace Go.Proofs.YtneihdahboilnaaGreat
open Go.RowKit

theorem hnewN {hp : Hp} {f : Nat} {o : AObj} (h : hfam hp f = none) (hm : notM o = true := by rfl) : hnew? hp f o = some ((f, [o]) :: hp) := by simp only [hnew?, h, hm]
theorem partN {hp : Hp} {f : Nat} {x : List AObj} : ∀ {nm : List Nat}, memB f nm = false → part? ((f, x) :: hp) nm = part? hp nm
  | [], _ => rfl
  | g :: r, h => by
    have h1 : Nat.beq f g = false := by
      cases hb : Nat.beq f g with
      | false => rfl
      | true =>
        have e := Nat.eq_of_beq_eq_true hb;subst e
        simp [memB] at h
    have h2 : memB f r = false := by
      cases hb : memB f r with
      | false => rfl
      | true => simp [memB, hb] at h
    simp only [part?];rw [partN h2];simp only [hfam, h1]
theorem subB_refl (l : List Nat) : subB l l = true := by
  have key : ∀ (l m : List Nat), (∀ x ∈ l, x ∈ m) → subB l m = true := fun l => by
    induction l with
    | nil => intro m _; rfl
    | cons a r ih => intro m h; simp only [subB, Bool.and_eq_true]; exact ⟨Zbb.2 (h a (by simp)), ih m fun x hx => h x (by simp [hx])⟩
  exact key l l fun x hx => hx
theorem feed_cons' {α β : Type} {step : β → α → β × Bool} {b : β} {x : α} {r : List α} : feed step b (x :: r) = if (step b x).2 = true then feed step (step b x).1 r else (step b x).1 := by
  simp only [feed]
  generalize step b x = y
  obtain ⟨y1, y2⟩ := y
  cases y2 <;> rfl
def encI (x : Itm) : List AV := [.d (itmD x)]
section
variable {β : Type}
set_option maxRecDepth 100000 in
theorem seqV_c (its : List Itm) (hits : its.length ≤ 1000000) (l : Nat) (H : β → Hp) (N : List Nat) (step : β → Itm → β × Bool) (st0 : β) (hN : ∀ st, hpN (H st) = N) (hI : ∀ st, hpIn N (H st) = true) (hP : ∀ st, part? (H st) N = some (H st))
    (hk : ∀ st, killH? 990 (H st) = some (H st)) (hz : ∀ st, hfam (H st) 990 = none) (hm : memB 990 N = false)
    (hfe : Feeds Tryz.prog l encI H step st0 its) :
    ACalls Tryz.prog 132 [.d (.raw (yieldV l)), .d (.ptr (.sl none (its.map itmD)))] (H st0) fun r H' => r = .tup [] ∧ H' = H (feed step st0 its) := by
  refine ZaI Tryz.func132 rfl rfl Tryz.ntmps132 rfl rfl rfl fun F hF => (Zag (Zab (Zaa.go (Zaz rfl rfl on33 rfl) (Zaa.go (ZaD rfl Tryz.underlying33 rfl) (Zaa.go (Zac rfl rfl) (Zaf (Zat (a_loop (α := Nat × β) (fun p => ⟨16, [(0, .d (.raw (yieldV l))), (5, (.d (.sl none (its.map itmD)))), (6, (.d (intD (its.length : Int)))), (7, (.d (intD (p.1 : Int))))], H p.2⟩) (fun p => p.1 ≤ its.length ∧ Feeds Tryz.prog l encI H step p.2 (its.drop p.1) ∧ feed step p.2 (its.drop p.1) = feed step st0 its) (fun p => its.length - p.1) ((0, st0)) (⟨Nat.zero_le _, hfe, rfl⟩) (le_of_has ⟨rfl, rfl, rfl, rfl, trivial⟩) ?_))))))));rintro ⟨k, st⟩ ⟨hk0, hfd, hfin⟩;dsimp only at hk0 hfd hfin ⊢;refine Zag (Zab (Zaa.go (ZaM rfl rfl rfl) (Zaf (Zag (ZaK rfl (fun h8 => ?_) (fun h8 => ?_))))))
  · have hk1 : k < its.length := ZaP h8;refine Zas (Zag (Zat (Zag (Zab ?_))));have hA : its.drop k = its[k] :: its.drop (k + 1) := List.drop_eq_getElem_cons hk1;rw [hA] at hfd;refine Zaa.go (Zay (k) rfl rfl (rfl) (getm hk1) Tryz.underlying33 rfl sz91 rfl) (Zaa.go (ZaE rfl rfl rw91 rfl) (Zam.go (ZaX 990 zl91 rfl (hk _) (hnewN (hz _)) rfl) (Zam.go (ZaF rfl rfl rfl rfl rfl rfl rfl sz91) (Zaf (Zag ?_)))));refine Zab (Zaa.go (Zac rfl rfl) (Zaa.go (Zap rfl rfl rw91 rfl rfl rfl) (o_keep [0, 5, 6, 7, 11, 12] rfl (o_only N (hF.trans (hN st0)) (subB_refl N) ((partN hm).trans (hP _)) (o_yieldW hfd.1 rfl rfl (by rw [hN, hN]) (by rw [hN]; exact hI _) rfl rfl (Zaa.go (Zbf rfl rfl) (Zaf (Zbl rfl (fun h14 => ?_) (fun h14 => ?_)))))))))
    · have hgo : (step st its[k]).2 = false := by simpa using h14
      refine Zav ?_;exact ⟨_, N, _, Zaq rfl, hP _, by rw [← hN st0]; exact namesIn_all _, rfl, by rw [← hfin, hA, feed_cons', if_neg (by rw [hgo]; decide)]⟩
    · have hgo : (step st its[k]).2 = true := by simpa using h14
      refine Zas (Zab (Zaa.go (ZaG rfl rfl (wrapS (k + 1) (by omega)) rfl) (Zaa.go (Zac rfl rfl) (Zaf ?_))));exact ⟨(k + 1, (step st its[k]).1), ⟨by show k + 1 ≤ _; omega, hfd.2 hgo, by rw [← hfin, hA, feed_cons', if_pos hgo]⟩, by show its.length - (k + 1) < its.length - k; omega, ⟨rfl, rfl, fun _ _ => Has.get (l := [(0, _), (5, _), (6, _), (7, _)]) ⟨rfl, rfl, rfl, rfl, trivial⟩⟩⟩
  · refine ZaQ ?_;exact ⟨_, N, _, Zaq rfl, hP _, by rw [← hN st0]; exact namesIn_all _, rfl, by rw [← hfin, List.drop_of_length_le (by have h := h8; omega)]; rfl⟩
end
end Go.Proofs.YtneihdahboilnaaGreat

/- Layer 28: the items in order. -/
namespace Go.Proofs.YtneihdahboilnaaGreat
open Go.RowKit

theorem SR.freezeB {F : Fr} {s : AS} {ρ : Nat → Nat → Value} {act : Act} {w : World} (h : SR F s ρ act w) (t f : Nat) (x : D) {T : TypeId} {cs : List AV} {hp' : Hp} (nm : List Nat) {pn : List Nat} (hF : F.pn = pn) (ht : get s.env t = some (.ptr f 0 0)) (hone : hfam s.hp f = some [.blk T cs]) (hcs : cs = x.cells.map .d) (hx1 : ∀ c ∈ x.cells, c.one = true) (hf : memB f nm = false) (hsub : subB pn nm = true) (hpt : part? s.hp nm = some hp') : SR F ⟨s.n, (t, .d (.ptr x)) :: s.env, hp'⟩ ρ act w := by
  have h1 := h.only nm hF hsub hpt;refine ⟨h1.size, h1.defs, fun t' a ha => ?_, h1.heap⟩;rcases Zbz ha with ⟨rfl, rfl⟩ | ⟨_, ha⟩
  · have hr := h.env t _ ht;have ho : hget s.hp f 0 = some (.blk T cs) := by simp [hget, hone, gl, isM]
    obtain ⟨b, us, e1, e2, e3, e4, e5⟩ := h.heap.sim f 0 _ ho;show RepA _ _ _ _ (act.tmps.getD t undef)
    generalize act.tmps.getD t undef = v at hr
    cases hr with
    | @ptr _ _ _ b' hb =>
      rw [e1] at hb; injection hb with hb; injection hb with hb; injection hb with hb; subst hb
      have hO : ∀ b', F.O ρ hp' b' → F.O ρ s.hp b' := fun b' hb' => hb'.imp id fun ⟨f', i', o', q1, q2⟩ => by
        obtain ⟨m1, _⟩ := part?_mem hpt;refine ⟨f', i', o', ?_, q2⟩;simp only [hget] at q1 ⊢
        cases hh : hfam hp' f' with
        | none => rw [hh] at q1; cases q1
        | some l => rw [(m1 f' l hh).2]; rw [hh] at q1; exact q1
      have hnO : ¬ F.O ρ hp' b := fun hb' => by
        rcases hb' with hb' | ⟨f', i', o', q1, q2⟩
        · exact h.heap.notOf ⟨f, 0, _, ho, by rw [e1]; rfl⟩ hb'
        · obtain ⟨m1, _⟩ := part?_mem hpt;simp only [hget] at q1
          cases hh : hfam hp' f' with
          | none => rw [hh] at q1; cases q1
          | some l =>
            have q3 : hget s.hp f' i' = some o' := by simp only [hget]; rw [(m1 f' l hh).2]; rw [hh] at q1; exact q1
            obtain ⟨e1', _⟩ := h.heap.inj f' i' f 0 _ _ b q3 ho q2 (by rw [e1]; rfl);have := Zbb.2 (m1 f' l hh).1;rw [e1', hf] at this; cases this
      have hlen : us.length = x.cells.length := by rw [e3, hcs, List.length_map]
      refine .d (.ptr (fun j => us.getD j undef) (h.heap.ltO (.inr ⟨f, 0, _, ho, by rw [e1]; rfl⟩)) hnO hx1 (fun j c hj => ?_) (fun j c hj => ?_))
      · have hj' : j < us.length := by rw [hlen]; exact (List.getElem?_eq_some_iff.1 hj).1
        rw [Nat.zero_add, cell_of_row w b j us.toArray T (0, 0) e2]
        simp [hj']
      · have hj' : j < us.length := by rw [hlen]; exact (List.getElem?_eq_some_iff.1 hj).1
        have hc := e4 j (.d c) us[j] (by rw [hcs, List.getElem?_map, hj]; rfl) (List.getElem?_eq_getElem hj');have hg : us.getD j undef = us[j] := by simp [hj']
        rw [hg]
        cases hc with
        | d hc => exact hc.mono (Nat.le_refl _) (fun _ _ _ => rfl) fun b' _ => hO b'
  · exact h1.env t' a ha
theorem o_freezeB {P : Program} {F : Fr} {Q : Exit → AS → Prop} {ops : Array Oper} {l' : List Oper} {sn : Nat} {env : List (Nat × AV)} {hp hp' : Hp} (t f : Nat) (x : D) {T : TypeId} {cs : List AV} (nm : List Nat) {pn : List Nat} (hF : F.pn = pn) (ht : get env t = some (.ptr f 0 0)) (hone : hfam hp f = some [.blk T cs]) (hcs : cs = x.cells.map .d) (hx1 : ∀ c ∈ x.cells, c.one = true) (hf : memB f nm = false) (hsub : subB pn nm = true) (hpt : part? hp nm = some hp')
    (h : Aops P F ops l' Q ⟨sn, (t, .d (.ptr x)) :: env, hp'⟩) : Aops P F ops l' Q ⟨sn, env, hp⟩ := fun ρ act w hs => h ρ act w (hs.freezeB t f x nm hF ht hone hcs hx1 hf hsub hpt)


theorem values_c (its : List Itm) : ACalls Tryz.prog 104 [.d (.sl none (its.map itmD))] [] fun r H' => r = .fn 132 [.d (.ptr (.sl none (its.map itmD)))] ∧ H' = [] := by
  refine ZaI Tryz.func104 rfl rfl Tryz.ntmps104 rfl rfl rfl fun F hF => (Zag (Zab (Zam.go (ZaS 1 rfl rfl rfl rfl rfl rfl rfl) ?_)));refine Zaa.go (Zad rfl rfl) (Zaf (Zag (Zab (o_freezeB 1 1 (.sl none (its.map itmD)) [] hF rfl rfl rfl (by intro c hc; simp [D.cells] at hc; subst hc; rfl) rfl rfl rfl (Zaa.go (Zdd rfl rfl) (Zaa.go (Zad rfl rfl) (Zaf (Zav ?_))))))));exact ⟨_, [], [], Zaq rfl, rfl, rfl, rfl, rfl⟩
abbrev hV (q : List Itm) : Hp := [(920, [.rowD 91 6 (q.map itmD)]), (1, [.blk 33 [.own 920 0 q.length]])]
def stepI (q : List Itm) (x : Itm) : List Itm × Bool := (q ++ [x], true)
theorem feed_app : ∀ (l q : List Itm), feed stepI q l = q ++ l
  | [], q => by simp [feed]
  | x :: l, q => by rw [feed_cons']; show (if true = true then feed stepI (q ++ [x]) l else _) = _; rw [if_pos rfl, feed_app l]; simp
theorem feeds_app {P : Program} {l : Nat} {H : List Itm → Hp} {n : Nat} (hY : ∀ q x, q.length < n → YCalls P l (encI x) (H q) fun v H' => v = .d (.raw (.bool true)) ∧ H' = H (q ++ [x])) : ∀ (xs q : List Itm), q.length + xs.length ≤ n → Feeds P l encI H stepI q xs
  | [], _, _ => trivial
  | x :: xs, q, h => ⟨hY q x (by simp at h; omega), fun _ => feeds_app hY xs (q ++ [x]) (by simp at h ⊢; omega)⟩
set_option maxRecDepth 100000 in
theorem appseq_c (its : List Itm) (hits : its.length ≤ 1000000) : ACalls Tryz.prog 147 [.d (.sl (some true) []), .fn 132 [.d (.ptr (.sl none (its.map itmD)))]] [] fun r H' => r = .own 920 0 its.length ∧ H' = [(920, [.rowD 91 6 (its.map itmD)])] := by
  refine a_enterR Tryz.func147 rfl rfl Tryz.ntmps147 rfl rfl rfl fun F hF hFl => (Zag (Zab (Zam.go (ZaS 1 rfl rfl rfl rfl rfl rfl rfl) ?_)));refine Zaa.go (Zad rfl rfl) (Zaf (Zag (Zag (Zci 1 0 0 920 sl33 rfl rfl rfl rfl rfl rfl rfl (Zab (Zaa.go (Zac rfl rfl) (Zaf (Zat ?_))))))));refine a_keep [2, 6] rfl ?_;refine a_range (γ := Unit) hFl 900 rfl rfl rfl rfl rfl [1, 920] (CHr := hV []) (fun _ => True) (fun _ => hV its) (fun _ => .ready) (fun _ => none) ⟨rfl, rfl, trivial⟩ rfl rfl rfl (fun _ => rfl) (fun _ => rfl) rfl (fun _ _ => by simp) (fun _ _ => ⟨rfl, rfl⟩) [920, 1] hF rfl rfl (fun _ _ => rfl) (fun l A B hA hB => ?_) (fun _ _ => ?_)
  · refine (seqV_c its hits l (fun q : List Itm => (900, [.loop ⟨l, 13, [(2, .ptr 1 0 0), (6, .fn 132 [.d (.ptr (.sl none (its.map itmD)))])], .ready, none, #[7], A, B⟩]) :: hV q) [900, 920, 1] stepI [] (fun _ => rfl) (fun _ => rfl) (fun _ => rfl) (fun _ => rfl) (fun _ => rfl) rfl ?_).mono (fun r H' ⟨e1, e2⟩ => ⟨e1, (), trivial, by rw [e2, feed_app]; rfl⟩);refine feeds_app (n := its.length) (fun q x hq => ?_) its [] (by simp);refine yc_round (lf := 900) rfl rfl rfl rfl fun F hF hr => ?_;show Awp _ _ A _ _;rw [hA];refine Zab (Zam.go (ZaX 2 zl91 rfl rfl rfl rfl) (Zam.go (ZaF rfl rfl rfl rfl rfl rfl rfl sz91) (Zaf (⟨rfl, _, _, rfl, rfl, rfl, rfl, ?_⟩))));show Awp _ _ B _ _;rw [hB];refine Zat (Zab (Zaa.go (Zaj rfl rfl rfl on33 rfl) (Zaa.go (Zap rfl rfl rw91 rfl rfl rfl) (Zam.go (ZaJ 30 sl33 rfl rfl rfl rfl rfl rfl rfl rfl) (Zam.go (Zbd (q) ([x]) rfl rfl rfl rfl rfl rfl rfl rfl sl33 (by simp only [List.length_singleton]; omega) rfl rfl rfl rfl) (Zam.go (ZaF rfl rfl rfl rfl rfl rfl rfl sz33) (Zaf ?_)))))));exact ⟨none, _, _, [900, 920, 1], _, rfl, rfl, rfl, rfl, rfl, rfl, rfl, rfl⟩
  · refine Zag (Zab (Zaa.go (Zaj rfl rfl rfl on33 rfl) (Zaa.go (Zad rfl rfl) (Zaf (Zav ?_)))));exact ⟨_, [920], _, Zaq rfl, rfl, rfl, rfl, rfl⟩
end Go.Proofs.YtneihdahboilnaaGreat

/- Layer 28: a problem's items in order. -/
namespace Go.Proofs.YtneihdahboilnaaGreat
open Go.RowKit

theorem insO_perm (l : List Itm) (x : Itm) : (insO l x).Perm (x :: l) := by
  induction l with
  | nil => exact List.Perm.refl _
  | cons a l ih =>
    simp only [insO]; split
    · exact List.Perm.refl _
    · exact (List.Perm.cons a ih).trans (List.Perm.swap x a l)
theorem insO_sorted {l : List Itm} (h : l.Pairwise fun a b => ¬ ordI b a < 0) (x : Itm) : (insO l x).Pairwise fun a b => ¬ ordI b a < 0 := by
  induction l with
  | nil => simp [insO]
  | cons a l ih =>
    rw [List.pairwise_cons] at h;simp only [insO]
    split
    · rename_i hall
      exact List.pairwise_cons.2 ⟨fun y hy => by have h1 := hall y hy; have h2 := ordI_pc.anti x y; omega, List.pairwise_cons.2 h⟩
    · rename_i hn
      refine List.pairwise_cons.2 ⟨fun y hy => ?_, ih h.2⟩;rcases List.mem_cons.1 ((insO_perm l x).mem_iff.1 hy) with rfl | hy
      · intro hlt;refine hn fun z hz => ?_;rcases List.mem_cons.1 hz with rfl | hz
        · exact hlt
        · have h1 := h.1 z hz;have h2 := ordI_pc.anti a z
          by_cases e : ordI a z = 0
          · have h3 := ordI_pc.eqv a z y e;have h4 := ordI_pc.anti a y; have h5 := ordI_pc.anti z y; omega
          · exact ordI_pc.trans _ _ _ hlt (by omega)
      · exact h.1 y hy
theorem Zbe (l : List Itm) : (sortO l).Perm l := by
  induction l using ZcJ with
  | h0 => exact List.Perm.refl _
  | h1 l x ih =>
    rw [sortO_snoc];exact (insO_perm _ x).trans ((List.Perm.cons x ih).trans (List.perm_append_comm (l₁ := [x]) (l₂ := l)))
theorem sortO_sorted (l : List Itm) : (sortO l).Pairwise fun a b => ¬ ordI b a < 0 := by
  induction l using ZcJ with
  | h0 => exact List.Pairwise.nil
  | h1 l x ih => rw [sortO_snoc]; exact insO_sorted ih x
theorem ordI_zero {a b : Itm} (h : ordI a b = 0) : a.sq = b.sq := by
  unfold ordI at h;simp only [fst0] at h
  split at h
  · split at h
    · rename_i h2; exact cmpI_zero.1 h2
    · contradiction
  · contradiction
theorem strict_of {l : List Itm} (hn : (l.map Itm.sq).Nodup) (h : l.Pairwise fun a b => ¬ ordI b a < 0) : l.Pairwise fun a b => ordI a b < 0 := by
  rw [List.Nodup, List.pairwise_map] at hn;refine (h.and hn).imp fun {a b} ⟨g1, g2⟩ => ?_;have h1 := ordI_pc.anti a b;have h2 : ordI a b ≠ 0 := fun e => g2 (ordI_zero e);omega
theorem ord_one {its ys : List Itm} (hn : (its.map Itm.sq).Nodup) (h1 : ys.Perm its) (h2 : ys.Pairwise fun a b => ¬ ordI b a < 0) : ys = sortO its :=
  strict_one (R := fun a b => ordI a b < 0) (fun x => by rw [ordI_pc.refl]; omega) (fun x y z => ordI_pc.trans x y z) (strict_of ((h1.map _).nodup_iff.2 hn) h2) (strict_of (((Zbe its).map _).nodup_iff.2 hn) (sortO_sorted its)) fun x => by rw [h1.mem_iff, (Zbe its).mem_iff]
theorem itmD_agg (x : Itm) : ∃ cs, itmD x = .agg cs := ⟨_, rfl⟩
abbrev seqA (its : List Itm) : AV := .fn 132 [.d (.ptr (.sl none (its.map itmD)))]
set_option maxRecDepth 100000 in
theorem collect_c (its : List Itm) (hits : its.length ≤ 1000000) : ACalls Tryz.prog 130 [seqA its] [] fun r H' => r = .own 920 0 its.length ∧ H' = [(920, [.rowD 91 6 (its.map itmD)])] := by
  refine ZaI Tryz.func130 rfl rfl Tryz.ntmps130 rfl rfl rfl fun F hF => (Zag (Zab ?_));refine Zaa.go (Zad rfl rfl) (Zaf (Zag (Zab (Zaa.go (Zac rfl rfl) (Zam.go (Zby (appseq_c its hits) rfl [920] ⟨rfl, trivial⟩ rfl rfl rfl rfl rfl rfl rfl rfl rfl) (Zaa.go (Zad rfl rfl) (Zaf (Zav ?_))))))));exact ⟨_, [920], _, Zaq rfl, rfl, rfl, rfl, rfl⟩
set_option maxRecDepth 100000 in
theorem sortedF_p (its : List Itm) (hits : its.length ≤ 1000000) (hn : (its.map Itm.sq).Nodup) : PCalls Tryz.prog 103 [seqA its, .d (.raw (.func (.func 105) #[] #[]))] (.sl none ((sortO its).map itmD)) := by
  refine ZaI Tryz.func103 rfl rfl Tryz.ntmps103 rfl rfl rfl fun F hF => (Zag (Zab (Zaa.go (Zad rfl rfl) (Zaf (Zag ?_)))));refine Zab (Zaa.go (Zac rfl rfl) (Zam.go (Zby (collect_c its hits) rfl [920] ⟨rfl, trivial⟩ rfl rfl rfl rfl rfl rfl rfl rfl rfl) (Zaa.go (Zad rfl rfl) (Zaf (Zag (Zab (Zaa.go (Zac rfl rfl) (Zaa.go (Zac rfl rfl) ?_))))))));refine Zam.go (st_sort laysI (k := 6) (by decide) Tryz.isAgg91 Tryz.sizeOf91 Tryz.func105 rfl rfl itmD_agg ordI ordI_pc.swo its (sortO its) (by omega) (fun x _ y _ => order_p x y) (fun ys g1 g2 => ord_one hn g1 g2) rfl rfl rfl fa_raw rfl rfl rfl rfl rfl) (Zaf (Zag (ZbC (emb := itmD) 5 920 (sortO its) rfl rfl rfl (Zcb its).symm rfl rfl rfl (Zab (Zaa.go (Zac rfl rfl) (Zaa.go (Zad rfl rfl) (Zaf (Zav ?_))))))));exact ⟨_, [], [], Zaq rfl, rfl, rfl, rfl, rfl⟩
theorem Zc6 {l : List Itm} (h : itemsE l = 0) : (l.map Itm.sq).Nodup := by
  have h0 := ZbG.1 h;rw [List.Nodup, List.pairwise_map, List.pairwise_iff_getElem];intro i j hi hj hij e;have := h0 j (List.mem_range.2 hj);unfold iErr at this;rw [ZaT itm0 hj] at this
  split at this
  · contradiction
  · split at this
    · cases this
    · rename_i hn
      exact hn (.inr (mem_tk hj hij e))
theorem Zbn {p : Prb} (h : prbE p = 0) : roomsE p.ro = 0 ∧ itemsE p.it = 0 ∧ afterE p.it = 0 := by
  unfold prbE at h
  split at h; · cases h
  have h3 := fst0_all h;exact ⟨h3 _ (by simp), h3 _ (by simp), h3 _ (by simp)⟩
def ordP (p : Prb) : List Itm := if prbE p = 0 then sortO p.it else []
set_option maxRecDepth 100000 in
theorem psorted_p (p : Prb) (hb : PrbB p) : PCalls Tryz.prog 88 [.d (prbD p)] (.sl none ((ordP p).map itmD)) := by
  have hck := pcheck_p p hb;obtain ⟨_, g2, _⟩ := hb
  by_cases hE : prbE p = 0
  · rw [hE] at hck;have hR : ordP p = sortO p.it := if_pos hE;rw [hR];refine ZaI Tryz.func88 rfl rfl Tryz.ntmps88 rfl rfl rfl fun F hF => (Zag (Zab (Zam.go (ZaS 1 rfl rfl rfl rfl rfl rfl rfl) (Zaa.go (Zad rfl rfl) (Zaf ?_)))));refine Zag (Zag (Zab (Zaa.go (Zap rfl rfl rw35 rfl rfl rfl) (Zaa.go (Zan (hck) rfl rfl) (Zaa.go (Za0 rfl rfl rfl) (Zaf (Za1 rfl ((by decide)) (Zas ?_))))))));refine Zag (Zab (Zaa.go (Zai rfl fi35_1 rfl rfl rfl) (Zaa.go (Zaj rfl rfl rfl on33 rfl) (Zam.go (Zby (values_c p.it) rfl [] trivial rfl rfl rfl rfl rfl rfl rfl rfl rfl) (Zaa.go (Zan (sortedF_p p.it (by omega) (Zc6 (Zbn hE).2.1)) rfl rfl) (Zaa.go (Zad rfl rfl) (Zaf (Zav ?_))))))));exact ⟨_, [], [], Zaq rfl, rfl, rfl, rfl, rfl⟩
  · have hR : ordP p = [] := if_neg hE;rw [hR];refine ZaI Tryz.func88 rfl rfl Tryz.ntmps88 rfl rfl rfl fun F hF => (Zag (Zab ?_));refine Zam.go (ZaS 1 rfl rfl rfl rfl rfl rfl rfl) (Zaa.go (Zad rfl rfl) (ZcB 2 rfl (Zaf (Zag (Zag (Zab (Zaa.go (Zap rfl rfl rw35 rfl rfl rfl) (Zaa.go (Zan (hck) rfl rfl) ?_))))))));refine Zaa.go (Za0 rfl rfl rfl) (Zaf (ZaW rfl ((by simpa using hE)) (Zag (Zab (Zaa.go (Zad rfl rfl) (ZcB 2 rfl (Zaf (Zav ?_))))))));exact ⟨_, [], [], Zaq rfl, rfl, rfl, rfl, rfl⟩
end Go.Proofs.YtneihdahboilnaaGreat
/- Layer 28: Order, Queue, Item. -/
namespace Go.Proofs.YtneihdahboilnaaGreat
open Go.RowKit

theorem ordP_len (p : Prb) : (ordP p).length ≤ p.it.length := by unfold ordP; split <;> simp [Zcb]
theorem ordP_mem {p : Prb} {i : Itm} (h : i ∈ ordP p) : i ∈ p.it := by
  unfold ordP at h; split at h
  · exact (Zbe _).mem_iff.1 h
  · cases h
set_option maxRecDepth 100000 in
theorem order_ids_p (p : Prb) (hb : PrbB p) : PCalls Tryz.prog 75 [.d (prbD p)] (.sl none (((ordP p).map Itm.id).map intD)) := by
  have hso := psorted_p p hb;have hlen := ordP_len p;have hb2 := hb.2.1
  obtain ⟨S, hS⟩ : ∃ S, ordP p = S := ⟨_, rfl⟩
  rw [hS] at hso hlen ⊢;refine ZaI Tryz.func75 rfl rfl Tryz.ntmps75 rfl rfl rfl fun F hF => (Zag (Zab (Zam.go (ZaS 1 rfl rfl rfl rfl rfl rfl rfl) (Zaa.go (Zad rfl rfl) ?_))));refine Zaf (Zag (Zab (Zaa.go (Zad rfl rfl) (Zaf (Zag (Zag (Zca 3 900 sl28 rfl rfl rfl rfl (Zab ?_))))))))
  first | refine Zaa.go (ZaE rfl rfl rw35 rfl) ?_ | refine Zaa.go (Zap rfl rfl rw35 rfl rfl rfl) ?_ | refine Zaa.go (ZaY rfl rfl (rfl) rfl rw35 rfl) ?_
  refine Zaa.go (Zan (hso) rfl rfl) ?_
  first | refine Zaa.go (ZaD rfl Tryz.underlying33 rfl) ?_ | refine Zaa.go (ZbI rfl rfl Tryz.underlying33 rfl) ?_ | refine Zaa.go (Zb2 rfl Tryz.underlying33 rfl) ?_ | refine Zaa.go (ZbY rfl Tryz.underlying33 rfl) ?_ | refine Zaa.go (Zb3 rfl Tryz.underlying33 rfl) ?_ | refine Zaa.go (Zb8 rfl Tryz.underlying33 rfl) ?_
  refine Zaa.go (Zac rfl rfl) (Zaf (Zat (ZaO (α := Nat × List Int) (fun q => ⟨20, [(3, (.own 900 0 q.2.length)), (7, (.d (.sl none (S.map itmD)))), (8, (.d (intD (S.length : Int)))), (9, (.d (intD (q.1 : Int))))], [(900, [.rowD 3 1 (q.2.map intD)])]⟩) (fun q => q.1 ≤ S.length ∧ q.2 = (S.take q.1).map Itm.id) (fun q => S.length - q.1) ((0, [])) (⟨Nat.zero_le _, rfl⟩) (Zaw hF [900] rfl rfl ⟨rfl, rfl, rfl, rfl, trivial⟩) ?_)));rintro ⟨k, acc⟩ ⟨hk0, hA⟩;dsimp only at hk0 hA ⊢;refine Zag (Zab ?_)
  first | refine Zaa.go (ZaM rfl rfl rfl) ?_ | refine Zaa.go (Zb7 rfl rfl rfl) ?_
  refine Zaf (Zag ?_)
  first | refine ZaK rfl (fun h10 => ?_) (fun h10 => ?_) | refine Zbl rfl (fun h10 => ?_) (fun h10 => ?_)
  · have hk1 : k < S.length := ZaP h10;refine Zas (Zag (Zat (Zag (Zab ?_))));have hal : acc.length ≤ 100000 := by rw [hA, List.length_map, List.length_take]; omega
    first | refine Zaa.go (Zay (k) rfl rfl (rfl) (getm hk1) Tryz.underlying33 rfl sz91 rfl) ?_ | refine Zaa.go (Zbh (k) rfl rfl (rfl) (getm hk1) rfl Tryz.underlying33 sz91 rfl) ?_
    first | refine Zaa.go (ZaE rfl rfl rw91 rfl) ?_ | refine Zaa.go (Zap rfl rfl rw91 rfl rfl rfl) ?_ | refine Zaa.go (ZaY rfl rfl (rfl) rfl rw91 rfl) ?_
    refine Zam.go (ZaX 2 zl91 rfl rfl rfl rfl) (Zam.go (ZaF rfl rfl rfl rfl rfl rfl rfl sz91) (Zaf (Zab (Zaa.go (Zac rfl rfl) ?_))))
    first | refine Zaa.go (Zai rfl Zb6 rfl rfl rfl) ?_ | refine Zaa.go (Zau rfl Zb6 rfl rfl rfl) ?_ | refine Zaa.go (Zax rfl Zb6 rfl rfl rfl) ?_ | refine Zaa.go (ZaC rfl Zb6 rfl rfl rfl) ?_ | refine Zaa.go (Zar rfl Zb6 rfl rfl rfl) ?_
    first | refine Zaa.go (Zaz rfl rfl on3 rfl) ?_ | refine Zaa.go (Zaj rfl rfl rfl on3 rfl) ?_ | refine Zaa.go (ZaR rfl rfl (rfl) rfl on3 rfl) ?_
    refine Zam.go (ZaJ 3 sl28 rfl rfl rfl rfl rfl rfl rfl rfl) ?_
    first | refine Zam.go (Zbd (acc) ([S[k].id]) rfl rfl rfl rfl rfl rfl rfl rfl sl28 (by simp only [List.length_singleton]; omega) rfl rfl rfl rfl) ?_ | refine Zam.go (Zbr (acc) ([S[k].id]) rfl rfl rfl rfl rfl rfl (fun _ => rfl) sl28 (by simp only [List.length_singleton]; omega) rfl rfl rfl rfl) ?_
    refine Zaa.go (Zad rfl rfl) (Zaf (Zab (Zaa.go (ZaG rfl rfl (wrapS (k + 1) (by omega)) rfl) (Zaa.go (Zac rfl rfl) (Zaf ?_)))));exact ⟨(k + 1, _), ⟨by show k + 1 ≤ _; omega, by show _ = (S.take (k + 1)).map Itm.id; rw [tk_map hk1, ← hA]⟩, by show S.length - (k + 1) < S.length - k; omega, Zaw hF [900] rfl (rfl) ⟨rfl, rfl, rfl, rfl, trivial⟩⟩
  · refine ZaQ (Zag (ZbC (emb := intD) 3 900 acc rfl rfl rfl rfl rfl rfl rfl (Zab (Zaa.go (Zac rfl rfl) (Zaa.go (Zad rfl rfl) (Zaf (Zav ?_)))))));exact ⟨_, [], [], Zaq rfl, rfl, rfl, by rw [hA, List.take_of_length_le (by have h := h10; omega)], rfl⟩
end Go.Proofs.YtneihdahboilnaaGreat

/- Layer 28: Item. -/
namespace Go.Proofs.YtneihdahboilnaaGreat
open Go.RowKit

def itemF (l : List Itm) (id : Int) : Itm × Bool := match l.find? fun x => decide (x.id = id) with
  | some x => (x, true)
  | none => (itm0, false)
theorem itemF_at {l : List Itm} {id : Int} {k : Nat} (hk : k < l.length) (h0 : id ∉ (l.take k).map Itm.id) (h : l[k].id = id) : itemF l id = (l[k], true) := by
  have : l.find? (fun x => decide (x.id = id)) = some l[k] := by
    rw [List.find?_eq_some_iff_getElem];refine ⟨by simp [h], k, hk, rfl, fun j hj => ?_⟩;simp only [Bool.not_eq_true', decide_eq_false_iff_not];intro e;exact h0 (mem_tk hk hj e)
  unfold itemF; rw [this]
theorem itemF_no {l : List Itm} {id : Int} (h : id ∉ l.map Itm.id) : itemF l id = (itm0, false) := by
  have : l.find? (fun x => decide (x.id = id)) = none := by
    rw [List.find?_eq_none];intro x hx e;exact h (List.mem_map.2 ⟨x, hx, by simpa using e⟩)
  unfold itemF; rw [this]
theorem itm0_weak : ∀ w O v, RepD w O (.agg [intD 0, intD 0, intD 0, .sl (some true) [], .sl (some true) [], .sl (some true) []]) v → RepD w O (itmD itm0) v := fun w O v h => h.aggMono rfl (by simp [D.one]) fun i c c' hc hc' v hv => by
  match i, hc, hc' with
  | 0, hc, hc' => injection hc with hc; injection hc' with hc'; subst hc hc'; exact hv
  | 1, hc, hc' => injection hc with hc; injection hc' with hc'; subst hc hc'; exact hv
  | 2, hc, hc' => injection hc with hc; injection hc' with hc'; subst hc hc'; exact hv
  | 3, hc, hc' => injection hc with hc; injection hc' with hc'; subst hc hc'; exact hv.anyNil
  | 4, hc, hc' => injection hc with hc; injection hc' with hc'; subst hc hc'; exact hv.anyNil
  | 5, hc, hc' => injection hc with hc; injection hc' with hc'; subst hc hc'; exact hv.anyNil
set_option maxRecDepth 100000 in
theorem item_p (p : Prb) (id : Int) (hb : PrbB p) : PCalls Tryz.prog 63 [.d (prbD p), .d (intD id)] (.tup [itmD (itemF (ordP p) id).1, boolD (itemF (ordP p) id).2]) := by
  have hso := psorted_p p hb;have hlen := ordP_len p;have hb2 := hb.2.1;have hmem : ∀ i ∈ ordP p, i.po.length ≤ 100000 ∧ i.pa.length ≤ 100000 ∧ i.af.length ≤ 100000 := fun i hi => hb.2.2 i (ordP_mem hi)
  obtain ⟨S, hS⟩ : ∃ S, ordP p = S := ⟨_, rfl⟩
  rw [hS] at hso hlen hmem ⊢;refine ZaI Tryz.func63 rfl rfl Tryz.ntmps63 rfl rfl rfl fun F hF => ?_;refine Zag (Zab (Zam.go (ZaS 1 rfl rfl rfl rfl rfl rfl rfl) (Zam.go (ZaX 2 zl91 rfl rfl rfl rfl) (Zaa.go (Zad rfl rfl) (Zaf (Zag (Zag (Zab ?_))))))))
  first | refine Zaa.go (ZaE rfl rfl rw35 rfl) ?_ | refine Zaa.go (Zap rfl rfl rw35 rfl rfl rfl) ?_ | refine Zaa.go (ZaY rfl rfl (rfl) rfl rw35 rfl) ?_
  refine Zaa.go (Zan (hso) rfl rfl) ?_
  first | refine Zaa.go (ZaD rfl Tryz.underlying33 rfl) ?_ | refine Zaa.go (ZbI rfl rfl Tryz.underlying33 rfl) ?_ | refine Zaa.go (Zb2 rfl Tryz.underlying33 rfl) ?_ | refine Zaa.go (ZbY rfl Tryz.underlying33 rfl) ?_ | refine Zaa.go (Zb3 rfl Tryz.underlying33 rfl) ?_ | refine Zaa.go (Zb8 rfl Tryz.underlying33 rfl) ?_
  refine Zaa.go (Zac rfl rfl) (Zaf (Zat (ZaO (α := Nat) (fun k => ⟨23, [(1, .d (intD id)), (4, (.ptr 2 0 0)), (9, (.d (.sl none (S.map itmD)))), (10, (.d (intD (S.length : Int)))), (11, (.d (intD (k : Int))))], [(2, [.blk 91 [.d (intD 0), .d (intD 0), .d (intD 0), nilC, nilC, nilC]])]⟩) (fun k => k ≤ S.length ∧ id ∉ (S.take k).map Itm.id) (fun k => S.length - k) (0) (⟨Nat.zero_le _, by simp⟩) (Zaw hF [2] rfl rfl ⟨rfl, rfl, rfl, rfl, rfl, trivial⟩) ?_)));rintro k ⟨hk0, hk⟩;refine Zag (Zab ?_)
  first | refine Zaa.go (ZaM rfl rfl rfl) ?_ | refine Zaa.go (Zb7 rfl rfl rfl) ?_
  refine Zaf (Zag ?_)
  first | refine ZaK rfl (fun h12 => ?_) (fun h12 => ?_) | refine Zbl rfl (fun h12 => ?_) (fun h12 => ?_)
  · have hk1 : k < S.length := ZaP h12;refine Zas (Zag (Zat (Zag (Zab ?_))));have hgi := hmem _ (List.getElem_mem hk1)
    first | refine Zaa.go (Zay (k) rfl rfl (rfl) (getm hk1) Tryz.underlying33 rfl sz91 rfl) ?_ | refine Zaa.go (Zbh (k) rfl rfl (rfl) (getm hk1) rfl Tryz.underlying33 sz91 rfl) ?_
    first | refine Zaa.go (ZaE rfl rfl rw91 rfl) ?_ | refine Zaa.go (Zap rfl rfl rw91 rfl rfl rfl) ?_ | refine Zaa.go (ZaY rfl rfl (rfl) rfl rw91 rfl) ?_
    refine Zam.go (ZaX 3 zl91 rfl rfl rfl rfl) (Zam.go (ZaF rfl rfl rfl rfl rfl rfl rfl sz91) (Zaf (Zag (Zab ?_))))
    first | refine Zaa.go (Zai rfl Zb6 rfl rfl rfl) ?_ | refine Zaa.go (Zau rfl Zb6 rfl rfl rfl) ?_ | refine Zaa.go (Zax rfl Zb6 rfl rfl rfl) ?_ | refine Zaa.go (ZaC rfl Zb6 rfl rfl rfl) ?_ | refine Zaa.go (Zar rfl Zb6 rfl rfl rfl) ?_
    first | refine Zaa.go (Zaz rfl rfl on3 rfl) ?_ | refine Zaa.go (Zaj rfl rfl rfl on3 rfl) ?_ | refine Zaa.go (ZaR rfl rfl (rfl) rfl on3 rfl) ?_
    refine Zaa.go (Zac rfl rfl) ?_
    first | refine Zaa.go (Zbc rfl rfl rfl) ?_ | refine Zaa.go (Zbu rfl rfl rfl) ?_ | refine Zaa.go (st_eqlS rfl rfl rfl) ?_ | refine Zaa.go (st_eqlB Tryz.underlying3 rfl rfl rfl) ?_ | refine Zaa.go (st_eqlP Tryz.underlying3 rfl rfl rfl) ?_ | refine Zaa.go (st_eqlN Tryz.underlying3 rfl rfl) ?_ | refine Zaa.go (st_eqlF Tryz.underlying3 rfl rfl rfl) ?_ | refine Zaa.go (st_eqlFN Tryz.underlying3 rfl rfl) ?_
    refine Zaf ?_
    first | refine ZaK rfl (fun h18 => ?_) (fun h18 => ?_) | refine Zbl rfl (fun h18 => ?_) (fun h18 => ?_)
    · refine Zag (Zab ?_)
      first | refine Zaa.go (ZaE rfl rfl rw91 rfl) ?_ | refine Zaa.go (Zap rfl rfl rw91 rfl rfl rfl) ?_ | refine Zaa.go (ZaY rfl rfl (rfl) rfl rw91 rfl) ?_
      refine Zaa.go (Zan (clone_p S[k] (by omega) (by omega) (by omega)) rfl rfl) (Zam.go (ZaF rfl rfl rfl rfl rfl rfl rfl sz91) (Zaa.go (Zad rfl rfl) (Zaf (Zav ?_))));exact ⟨_, [], [], Zaq rfl, rfl, rfl, by rw [itemF_at hk1 hk h18], rfl⟩
    · refine Zas (Zab (Zaa.go (ZaG rfl rfl (wrapS (k + 1) (by omega)) rfl) (Zaa.go (Zac rfl rfl) (Zaf ?_))));exact ⟨k + 1, ⟨by show k + 1 ≤ _; omega, nmem_next hk1 hk h18⟩, by show S.length - (k + 1) < S.length - k; omega, Zaw hF [2] rfl (rfl) ⟨rfl, rfl, rfl, rfl, rfl, trivial⟩⟩
  · refine ZaQ (Zag (Zab (Zaa.go (Za5 zl91 pl91 rfl rfl rfl) (o_weakD 22 (itmD itm0) rfl itm0_weak (Zam.go (ZaF rfl rfl rfl rfl rfl rfl rfl sz91) (Zaa.go (Zad rfl rfl) (Zaf (Zav ?_))))))));exact ⟨_, [], [], Zaq rfl, rfl, rfl, by rw [itemF_no (by rw [List.take_of_length_le (by have h := h12; omega)] at hk; exact hk)], rfl⟩
end Go.Proofs.YtneihdahboilnaaGreat

/- Layer 28, plain: items by id. -/
namespace Go.Proofs.YtneihdahboilnaaGreat
open Go.RowKit

theorem itemF_mem {l : List Itm} {id : Int} (h : id ∈ l.map Itm.id) : ∃ x ∈ l, x.id = id ∧ itemF l id = (x, true) := by
  unfold itemF
  cases hf : l.find? (fun x => decide (x.id = id)) with
  | none =>
    rw [List.find?_eq_none] at hf;obtain ⟨x, hx, e⟩ := List.mem_map.1 h;exact absurd (by simpa using e) (hf x hx)
  | some x => exact ⟨x, List.mem_of_find?_eq_some hf, by simpa using List.find?_some hf, rfl⟩
theorem ids_inj {l : List Itm} (hn : (l.map Itm.id).Nodup) {x y : Itm} (hx : x ∈ l) (hy : y ∈ l) (h : x.id = y.id) : x = y := by
  induction l with
  | nil => cases hx
  | cons a l ih =>
    rw [List.map_cons, List.nodup_cons] at hn;rcases List.mem_cons.1 hx with e1 | hx' <;> rcases List.mem_cons.1 hy with e2 | hy'
    · rw [e1, e2]
    · exact absurd (List.mem_map.2 ⟨y, hy', by rw [← h, e1]⟩) hn.1
    · exact absurd (List.mem_map.2 ⟨x, hx', by rw [h, e2]⟩) hn.1
    · exact ih hn.2 hx' hy'
theorem Zcx {l : List Itm} (h : itemsE l = 0) : (l.map Itm.id).Nodup := by
  have h0 := ZbG.1 h;rw [List.Nodup, List.pairwise_map, List.pairwise_iff_getElem];intro i j hi hj hij e;have := h0 j (List.mem_range.2 hj);unfold iErr at this;rw [ZaT itm0 hj] at this
  split at this
  · contradiction
  · split at this
    · cases this
    · rename_i hn
      exact hn (.inl (mem_tk hj hij e))
end Go.Proofs.YtneihdahboilnaaGreat
/- Layer 28: conversion of problems; the law of problems' checks. -/
namespace Go.Proofs.YtneihdahboilnaaGreat
open Go.RowKit

end Go.Proofs.YtneihdahboilnaaGreat
/- Layer 28: chosen sets; the rooms after a set has settled. -/
namespace Go.Proofs.YtneihdahboilnaaGreat
open Go.RowKit

def chErr (ids l : List Int) (k : Nat) : Int := if l.getD k 0 ∉ ids then 9 else if l.getD k 0 ∈ l.take k then 7 else 0
def setE (ids l : List Int) : Int := fst0 ((List.range l.length).map (chErr ids l))
def choE (p : Prb) (l : List Int) : Int := if prbE p ≠ 0 then prbE p else setE (p.it.map Itm.id) l
theorem set_ok {ids l : List Int} (h : setE ids l = 0) : l.Nodup ∧ ∀ x ∈ l, x ∈ ids := by
  have h0 := ZbG.1 h;refine ⟨List.pairwise_iff_getElem.2 fun i j hi hj hij e => ?_, fun x hx => ?_⟩
  · have := h0 j (List.mem_range.2 hj);unfold chErr at this;rw [ZaT 0 hj] at this
    split at this
    · cases this
    · split at this
      · cases this
      · rename_i hn; exact hn (by rw [← e, List.mem_take_iff_getElem]; exact ⟨i, by omega, rfl⟩)
  · obtain ⟨j, hj, rfl⟩ := List.getElem_of_mem hx;have := h0 j (List.mem_range.2 hj);unfold chErr at this;rw [ZaT 0 hj] at this
    split at this
    · cases this
    · rename_i hn; exact Decidable.not_not.1 hn
end Go.Proofs.YtneihdahboilnaaGreat
/- Layer 28: Totals. -/
namespace Go.Proofs.YtneihdahboilnaaGreat
open Go.RowKit

theorem ctrSum_cons (x : Rsc × Int) (l : List (Rsc × Int)) (r : Rsc) : ctrSum (x :: l) r = (if x.1 = r then x.2 else 0) + ctrSum l r := by simp [ctrSum]
theorem ctrSum_none {l : List (Rsc × Int)} {r : Rsc} (h : r ∉ l.map Prod.fst) : ctrSum l r = 0 := by
  induction l with
  | nil => rfl
  | cons x l ih =>
    rw [List.map_cons, List.mem_cons] at h;rw [ctrSum_cons, if_neg (fun e => h (.inl e.symm)), ih (fun h' => h (.inr h'))]; rfl
def totQ (l : List Itm) (r : Rsc) : Int := (l.map fun i => ctrSum (ctr i) r).sum
def inB (l : List Int) (i : Itm) : Bool := decide (i.id ∈ l)
theorem ZbN {l : List Itm} (h : itemsE l = 0) : ∀ i ∈ l, checkE i = 0 := fun i hi => by
  have h0 := ZbG.1 h;obtain ⟨j, hj, rfl⟩ := List.getElem_of_mem hi;have := h0 j (List.mem_range.2 hj);unfold iErr at this;rw [ZaT itm0 hj] at this
  split at this
  · contradiction
  · rename_i hn; simpa using hn
theorem bnd_sum {i : Itm} (h : checkE i = 0) (r : Rsc) : -Mx ≤ ctrSum (ctr i) r ∧ ctrSum (ctr i) r ≤ Mx := by
  have hb := (check_ok h).2.2.2.2.2.2.2.2;unfold bndE at hb
  split at hb
  · cases hb
  · rename_i hn
    by_cases hr : r ∈ (sumL (ctr i)).map Prod.fst
    · obtain ⟨⟨r', v⟩, hx, e⟩ := List.mem_map.1 hr;have e : r' = r := e;subst e;have hv := ((sumL_mem _ _ _).1 hx).2;rw [← hv];exact Decidable.not_not.1 fun hh => hn ⟨_, hx, hh⟩
    · rw [ctrSum_none fun h' => hr ((sumL_keys _ r).2 h')]; simp only [Mx]; omega
theorem bnd_E {i : Itm} (h : checkE i = 0) : Bnd (sumL (ctr i)) := fun x hx => by
  have hv := ((sumL_mem (ctr i) x.1 x.2).1 hx).2;rw [hv]; simpa [Mx] using bnd_sum h x.1
def totR (p : Prb) (l : List Int) : List Roo := p.ro.map fun x => ⟨x.r, x.n + totQ (p.it.filter (inB l)) x.r⟩
theorem rooms_amt {l : List Roo} (h : roomsE l = 0) : ∀ x ∈ l, -4000000000000000 ≤ x.n ∧ x.n ≤ 4000000000000000 := fun x hx => by
  have h0 := ZbG.1 h;obtain ⟨j, hj, rfl⟩ := List.getElem_of_mem hx;have := h0 j (List.mem_range.2 hj);unfold rErr at this;rw [ZaT roo0 hj] at this
  split at this
  · contradiction
  · split at this
    · cases this
    · rename_i hn; simp only [Mx] at hn; omega
end Go.Proofs.YtneihdahboilnaaGreat
/- Layer 28: Settle. -/
namespace Go.Proofs.YtneihdahboilnaaGreat
open Go.RowKit

def inS (S : List Int) (x : Int) : Bool := decide (x ∈ S)
def kept (S l : List Int) : List Int := l.filter fun x => !inS S x
theorem kept_all {S l : List Int} (h : ∀ x ∈ l, inS S x = false) : kept S l = l := List.filter_eq_self.2 fun x hx => by rw [h x hx]; rfl
theorem kept_in {S l : List Int} {k : Nat} (hk : k < l.length) (h : inS S l[k] = false) : kept S (l.take (k + 1)) = kept S (l.take k) ++ [l[k]] := by
  unfold kept; rw [ZcC hk, if_pos (by rw [h]; rfl)]
theorem kept_out {S l : List Int} {k : Nat} (hk : k < l.length) (h : inS S l[k] = true) : kept S (l.take (k + 1)) = kept S (l.take k) := by
  unfold kept; rw [ZcC hk, if_neg (by rw [h]; simp), List.append_nil]
theorem kept_le (S l : List Int) : (kept S l).length ≤ l.length := List.length_filter_le _ _
end Go.Proofs.YtneihdahboilnaaGreat
/- Layer 28: Settle, continued. -/
namespace Go.Proofs.YtneihdahboilnaaGreat
open Go.RowKit

def outR (x : Roo) : Bool := !decide (-4000000000000000 ≤ x.n ∧ x.n ≤ 4000000000000000)
def restI (l : List Int) (i : Itm) : Itm := ⟨i.id, i.pr, i.sq, i.po, i.pa, kept l i.af⟩
def setlE (p : Prb) (l : List Int) : Int := if choE p l ≠ 0 then choE p l else if (totR p l).any outR then 12 else 0
def setlI (l : List Int) (its : List Itm) : List Itm := (its.filter fun i => !inB l i).map (restI l)
def setlP (p : Prb) (l : List Int) : Prb := if setlE p l = 0 then ⟨totR p l, setlI l p.it⟩ else ⟨[], []⟩
theorem prb0_weak : ∀ w O v, RepD w O (.agg [.sl (some true) [], .sl (some true) []]) v → RepD w O (prbD ⟨[], []⟩) v := fun w O v h => h.aggMono rfl (by simp [D.one]) fun i c c' hc hc' v hv => by
  match i, hc, hc' with
  | 0, hc, hc' => injection hc with hc; injection hc' with hc'; subst hc hc'; exact hv.anyNil
  | 1, hc, hc' => injection hc with hc; injection hc' with hc'; subst hc hc'; exact hv.anyNil
theorem setlI_snoc_in {l : List Int} {its : List Itm} {k : Nat} (hk : k < its.length) (h : its[k].id ∈ l) : setlI l (its.take (k + 1)) = setlI l (its.take k) := by
  unfold setlI; rw [ZcC hk, if_neg (by unfold inB; simp [h]), List.append_nil]
theorem setlI_snoc_out {l : List Int} {its : List Itm} {k : Nat} (hk : k < its.length) (h : its[k].id ∉ l) : setlI l (its.take (k + 1)) = setlI l (its.take k) ++ [restI l its[k]] := by
  unfold setlI; rw [ZcC hk, if_pos (by unfold inB; simp [h]), List.map_append]; rfl
theorem setlI_len (l : List Int) (its : List Itm) : (setlI l its).length ≤ its.length := by unfold setlI; rw [List.length_map]; exact List.length_filter_le _ _
end Go.Proofs.YtneihdahboilnaaGreat
/- Layer 28: the reference's Totals and Settle; conversion back. -/
namespace Go.Proofs.YtneihdahboilnaaGreat
open Go.RowKit

def itmOf (p : Prb) (id : Int) : Itm := p.it.getD ((p.it.map Itm.id).idxOf id) itm0
theorem ZbV {p : Prb} {id : Int} (h : id ∈ p.it.map Itm.id) : ∃ hk : (p.it.map Itm.id).idxOf id < p.it.length, ixI id (p.it.map Itm.id) = (((p.it.map Itm.id).idxOf id : Nat) : Int) ∧ itmOf p id = p.it[(p.it.map Itm.id).idxOf id] ∧ (itmOf p id).id = id := by
  have hk : (p.it.map Itm.id).idxOf id < (p.it.map Itm.id).length := List.idxOf_lt_length_iff.2 h;have hk' : (p.it.map Itm.id).idxOf id < p.it.length := by simpa using hk
  have he : itmOf p id = p.it[(p.it.map Itm.id).idxOf id] := ZaT itm0 hk';refine ⟨hk', if_pos h, he, ?_⟩;have h1 := List.getElem_idxOf hk;rw [List.getElem_map] at h1;rw [he]; exact h1
def setQ (p : Prb) (l : List Int) (r : Rsc) : Int := (l.map fun id => rdelta (itmOf p id) r).sum
def amtQ (p : Prb) (l : List Int) (r : Rsc) (n : Int) : Int := l.foldl (fun s id => s + rdelta (itmOf p id) r) n
theorem amtQ_eq (p : Prb) (r : Rsc) : ∀ (l : List Int) (n : Int), amtQ p l r n = n + setQ p l r
  | [], n => by simp [amtQ, setQ]
  | x :: l, n => by
    have h := amtQ_eq p r l (n + rdelta (itmOf p x) r);have h1 : amtQ p (x :: l) r n = amtQ p l r (n + rdelta (itmOf p x) r) := rfl;have h2 : setQ p (x :: l) r = rdelta (itmOf p x) r + setQ p l r := by simp [setQ]
    rw [h1, h, h2]; omega
theorem amtQ_snoc (p : Prb) {l : List Int} {k : Nat} (hk : k < l.length) (r : Rsc) (n : Int) : amtQ p (l.take (k + 1)) r n = amtQ p (l.take k) r n + rdelta (itmOf p l[k]) r := by
  unfold amtQ; rw [List.take_succ_eq_append_getElem hk, List.foldl_append]; rfl
theorem Zcr {l : List Roo} (h : roomsE l = 0) : ∀ x ∈ l, validE x.r = 0 := fun x hx => by
  have h0 := ZbG.1 h;obtain ⟨j, hj, rfl⟩ := List.getElem_of_mem hx;have := h0 j (List.mem_range.2 hj);unfold rErr at this;rw [ZaT roo0 hj] at this
  split at this
  · contradiction
  · rename_i hn; simpa using hn
theorem setQ_bound {p : Prb} (hp : prbE p = 0) {l : List Int} (hl : ∀ x ∈ l, x ∈ p.it.map Itm.id) (hn : l.length ≤ 1000) {r : Rsc} (hr : validE r = 0) : -1000000000000000000 ≤ setQ p l r ∧ setQ p l r ≤ 1000000000000000000 := by
  have := sum_bound (l := l) (f := fun id => rdelta (itmOf p id) r) (B := 1000000000000000) (fun x hx => by
    obtain ⟨hk, _, he, _⟩ := ZbV (hl x hx);show _ ≤ rdelta (itmOf p x) r ∧ _;rw [he, rdelta_eq hr]
    simpa [Mx] using bnd_sum (ZbN (Zbn hp).2.1 _ (List.getElem_mem hk)) r) 1000 hn (by omega)
  unfold setQ; omega
theorem perm_sum {α : Type} {l m : List α} (h : l.Perm m) (f : α → Int) : (l.map f).sum = (m.map f).sum := by
  induction h with
  | nil => rfl
  | cons x _ ih => simp [ih]
  | swap x y l => simp; omega
  | trans _ _ ih1 ih2 => rw [ih1, ih2]
theorem nodup_of_ids {l : List Itm} (h : (l.map Itm.id).Nodup) : l.Nodup := by
  rw [List.Nodup, List.pairwise_map] at h;exact h.imp fun h e => h (by rw [e])
theorem setQ_eq {p : Prb} (hp : prbE p = 0) {l : List Int} (h : setE (p.it.map Itm.id) l = 0) {r : Rsc} (hr : validE r = 0) : setQ p l r = totQ (p.it.filter (inB l)) r := by
  have hnd := Zcx (Zbn hp).2.1;obtain ⟨h1, h2⟩ := set_ok h
  have hperm : (l.map (itmOf p)).Perm (p.it.filter (inB l)) := by
    refine (List.perm_ext_iff_of_nodup ?_ ?_).2 fun x => ?_
    · rw [List.Nodup, List.pairwise_map];refine (List.Pairwise.imp_of_mem ?_ h1);intro a b ha hb hab e;have e1 := (ZbV (h2 a ha)).choose_spec.2.2;have e2 := (ZbV (h2 b hb)).choose_spec.2.2;exact hab (by rw [← e1, ← e2, e])
    · exact (nodup_of_ids hnd).filter _
    · rw [List.mem_map, List.mem_filter];refine ⟨?_, fun ⟨hx, hi⟩ => ?_⟩
      · rintro ⟨a, ha, rfl⟩;obtain ⟨hk, _, e2, e3⟩ := ZbV (h2 a ha);refine ⟨by rw [e2]; exact List.getElem_mem hk, ?_⟩;unfold inB; rw [e3]; exact decide_eq_true ha
      · have hi : x.id ∈ l := by unfold inB at hi; simpa using hi
        refine ⟨x.id, hi, ?_⟩;obtain ⟨hk, _, e2, e3⟩ := ZbV (h2 _ hi);exact ids_inj hnd (by rw [e2]; exact List.getElem_mem hk) hx e3
  have h3 := perm_sum hperm fun i => ctrSum (ctr i) r;rw [List.map_map] at h3;unfold totQ;rw [← h3];unfold setQ
  congr 1
  apply List.map_congr_left
  intro a _;exact rdelta_eq hr
set_option maxRecDepth 100000 in
theorem reftotals_p (p : Prb) (l : List Int) (hp : prbE p = 0) (hb : PrbB p) (hl : l.length ≤ 1000) : PCalls Tryz.prog 54 [.d (prbD p), .d (.sl none (l.map intD))] (.tup [.sl none ((if setE (p.it.map Itm.id) l = 0 then totR p l else []).map rooD), intD (setE (p.it.map Itm.id) l)]) := by
  have hb1 := hb.1;have hb2 := hb.2.1;have hram := rooms_amt (Zbn hp).1;have hrv := Zcr (Zbn hp).1;have hck := ZbN (Zbn hp).2.1
  obtain ⟨E0, hE0⟩ : ∃ e, setE (p.it.map Itm.id) l = e := ⟨_, rfl⟩
  rw [hE0];refine ZaI Tryz.func54 rfl rfl Tryz.ntmps54 rfl rfl rfl fun F hF => (Zag (Zab (Zam.go (ZaS 1 rfl rfl rfl rfl rfl rfl rfl) (Zaa.go (Zad rfl rfl) (ZcB 4 rfl ?_)))));refine Zaa.go (Zad rfl rfl) (Zaf (Zag (Zag (Zab (Zaa.go (Zad rfl rfl) (Zaf (Zat (ZaO (α := Nat) (fun k => ⟨72, [(1, .d (.sl none (l.map intD))), (2, (.ptr 1 0 0)), (6, (.d (intD (k : Int))))], [(1, [prbB2 25 p])]⟩) (fun k => k ≤ l.length ∧ E0 = fst0 (((List.range l.length).drop k).map (chErr (p.it.map Itm.id) l))) (fun k => l.length - k) (0) (⟨Nat.zero_le _, hE0.symm⟩) (Zaw hF [1] rfl rfl ⟨rfl, rfl, rfl, trivial⟩) ?_))))))));rintro k ⟨hk0, hk⟩;refine Zag (Zag (Zab (Zaa.go (Zac rfl rfl) (Zaa.go (Zac rfl rfl) (Zaa.go (ZaD rfl Tryz.underlying28 rfl) (Zaa.go (ZaM rfl rfl rfl) (Zaf (ZaK rfl (fun h14 => ?_) (fun h14 => ?_)))))))))
  · have hk1 : k < l.length := ZaP h14;refine Zas (Zag (Zat (Zag (Zag (Za2 [[], [], [], [1, 2], [1, 2, 3], [0, 1, 2, 3, 4], [0, 1, 2, 3, 4, 5]] mixed rfl (dws ?_))))));have hEc := ZcN hk1 hk;have hgd := ZaT 0 hk1;refine Zao [2] rfl rfl (fun _ => Zae (Zap rfl rfl rw25 rfl rfl rfl)) (Zah [1] [] rfl rfl (fun _ => Zae (Zac rfl rfl)) (Zah [6] [] rfl rfl (fun _ => Zae (Zac rfl rfl)) (Zah [18, 19] [] rfl rfl (fun _ => Zae (Zay (k) rfl rfl (rfl) (getm hk1) Tryz.underlying28 rfl sz3 rfl)) (Zah [20] [] rfl rfl (fun _ => Zae (Zaz rfl rfl on3 rfl)) (dwc 5 rfl rfl rfl (dw1 6 rfl rfl (Zaa.go (Zan (find_p p l[k] hb2) rfl rfl) (Zaf ⟨rfl, ?_⟩))))))));refine dw1 7 rfl rfl (Zaa.go (ZaM rfl rfl rfl) (Zaf ⟨rfl, ?_⟩));refine dwe (ZaK rfl (fun h23 => ?_) (fun h23 => ?_))
    · refine Zag (Zab (Zaa.go (Zad rfl rfl) (ZcB 4 rfl (Zaa.go (Zad rfl rfl) (Zaf (Zav ?_))))));exact ⟨_, [], [], Zaq rfl, rfl, rfl, by rw [← hEc.2 9 (by unfold chErr; rw [hgd, if_pos (ixI_neg h23)]) (by decide)]; rfl, rfl⟩
    · refine Zas (Zag (Za2 [[], [], [0, 1], [], [], [3, 4], [3, 4, 5], [0, 1, 2, 3, 4, 5, 6]] mixed rfl (dws (Zah [1] [] rfl rfl (fun _ => Zae (Zac rfl rfl)) (Zah [6] [] rfl rfl (fun _ => Zae (Zac rfl rfl)) ?_)))));refine Zah [24, 25] [] rfl rfl (fun _ => Zae (Zcj (l) (k) rfl rfl rfl (rfl) (by omega) Tryz.underlying28 sz3 (fun _ => rfl) rfl)) (Zah [1] [] rfl rfl (fun _ => Zae (Zac rfl rfl)) (Zah [6] [] rfl rfl (fun _ => Zae (Zac rfl rfl)) (Zah [27, 28] [] rfl rfl (fun _ => Zae (Zay (k) rfl rfl (rfl) (getm hk1) Tryz.underlying28 rfl sz3 rfl)) (Zah [29] [] rfl rfl (fun _ => Zae (Zaz rfl rfl on3 rfl)) (dwc 7 rfl rfl rfl (dw1 8 rfl rfl (Zaa.go (Zan (has_p (l.take k) l[k] (by rw [List.length_take]; omega)) rfl rfl) (Zaf ⟨rfl, ?_⟩))))))));refine dwe (ZaK rfl (fun h31 => ?_) (fun h31 => ?_))
      · refine Zag (Zab (Zaa.go (Zad rfl rfl) (ZcB 4 rfl (Zaa.go (Zad rfl rfl) (Zaf (Zav ?_))))));exact ⟨_, [], [], Zaq rfl, rfl, rfl, by rw [← hEc.2 7 (by unfold chErr; rw [hgd, if_neg (fun h => h (ixI_nn (by omega))), if_pos h31]) (by decide)]; rfl, rfl⟩
      · refine Zas (Zab (Zaa.go (Zac rfl rfl) (Zaa.go (ZaG rfl rfl (wrapS (k + 1) (by omega)) rfl) (Zaa.go (Zad rfl rfl) (Zaf ?_)))));exact ⟨k + 1, ⟨by show k + 1 ≤ _; omega, hEc.1 (by unfold chErr; rw [hgd, if_neg (fun h => h (ixI_nn (by omega))), if_neg h31])⟩, by show l.length - (k + 1) < l.length - k; omega, Zaw hF [1] rfl (rfl) ⟨rfl, rfl, rfl, trivial⟩⟩
  · refine ZaQ (Zag ?_);have hz : E0 = 0 := by rw [hk, List.drop_of_length_le (by have h := h14; simp only [List.length_range]; omega)]; rfl
    have hso := set_ok (hE0.trans hz);refine Zab (Zaa.go (Zad rfl rfl) ?_);refine Zaf (Zag (Zag (Zca 7 900 sl22 rfl rfl rfl rfl (Zab (Zaa.go (Zad rfl rfl) (Zaf (Zat (ZaO (α := List Roo) (fun acc => ⟨72, [(1, .d (.sl none (l.map intD))), (2, (.ptr 1 0 0)), (7, (.own 900 0 acc.length)), (8, (.d (intD (acc.length : Int))))], [(900, [.rowD 67 7 (acc.map rooD)]), (1, [prbB2 25 p])]⟩) (fun acc => acc.length ≤ p.ro.length ∧ acc = (totR p l).take acc.length) (fun acc => p.ro.length - acc.length) ([]) (⟨Nat.zero_le _, by simp⟩) (Zaw hF [900, 1] rfl rfl ⟨rfl, rfl, rfl, rfl, trivial⟩) ?_))))))));rintro acc ⟨ha0, hA⟩;refine Zag ?_;refine Zag (Zab (Zaa.go (Zac rfl rfl) (Zaa.go (Zai rfl ZaL rfl rfl rfl) (Zaa.go (Zaj rfl rfl rfl on22 rfl) (Zaa.go (ZaD rfl Tryz.underlying22 rfl) (Zaa.go (ZaM rfl rfl rfl) (Zaf (ZaK rfl (fun h36 => ?_) (fun h36 => ?_)))))))))
    · have ha1 : acc.length < p.ro.length := ZaP h36;refine Zas (Zag (Zat (Zag ?_)));have hra := hram _ (List.getElem_mem ha1);have hrva := hrv _ (List.getElem_mem ha1);refine Zab (Zaa.go (Zai rfl ZaL rfl rfl rfl) (Zaa.go (Zaj rfl rfl rfl on22 rfl) (Zaa.go (Zac rfl rfl) (Zaa.go (Zay (acc.length) rfl rfl (rfl) (getm ha1) Tryz.underlying22 rfl sz67 rfl) (Zaa.go (ZaE rfl rfl rw67 rfl) (Zam.go (ZaX 2 zl67 rfl rfl rfl rfl) ?_))))));refine Zam.go (ZaF rfl rfl rfl rfl rfl rfl rfl sz67) (Zaf (Zag (Zag (Zab (Zaa.go (Zad rfl rfl) (Zaf (Zat (ZaO (α := Nat) (fun m => ⟨72, [(1, .d (.sl none (l.map intD))), (2, (.ptr 1 0 0)), (7, (.own 900 0 acc.length)), (8, (.d (intD (acc.length : Int)))), (9, (.ptr 2 0 0)), (10, (.d (intD (m : Int))))], [(2, [.blk 67 [.d (intD p.ro[acc.length].r.k), .d (strD p.ro[acc.length].r.acc.o), .d (intD p.ro[acc.length].r.acc.k), .d (strD p.ro[acc.length].r.acc.a), .d (strD p.ro[acc.length].r.f), .d (strD p.ro[acc.length].r.t), .d (intD (amtQ p (l.take m) p.ro[acc.length].r p.ro[acc.length].n))]]), (900, [.rowD 67 7 (acc.map rooD)]), (1, [prbB2 25 p])]⟩) (fun m => m ≤ l.length) (fun m => l.length - m) (0) (Nat.zero_le _) (Zaw hF [2, 900, 1] rfl rfl ⟨rfl, rfl, rfl, rfl, rfl, rfl, trivial⟩) ?_))))))));rintro m hm0;refine Zag (Zag (Zab (Zaa.go (Zac rfl rfl) (Zaa.go (Zac rfl rfl) (Zaa.go (ZaD rfl Tryz.underlying28 rfl) (Zaa.go (ZaM rfl rfl rfl) (Zaf (ZaK rfl (fun h47 => ?_) (fun h47 => ?_)))))))))
      · have hm1 : m < l.length := ZaP h47;refine Zas (Zag (Zat (Za2 [[], [0], [], [2], [], [], [], [5, 6], [5, 6, 7], [4, 5, 6, 7, 8], [2, 3, 4, 5, 6, 7, 8, 9], [2, 3, 4, 5, 6, 7, 8, 9, 10], [], [12], [2, 3, 4, 5, 6, 7, 8, 9, 10, 11, 12, 13], [0, 1, 2, 3, 4, 5, 6, 7, 8, 9, 10, 11, 12, 13, 14], [0, 1, 2, 3, 4, 5, 6, 7, 8, 9, 10, 11, 12, 13, 14, 15], [0, 1, 2, 3, 4, 5, 6, 7, 8, 9, 10, 11, 12, 13, 14, 15, 16]] mixed rfl (dws ?_))));have hmem : l[m] ∈ p.it.map Itm.id := hso.2 _ (List.getElem_mem hm1);have hix : ixI l[m] (p.it.map Itm.id) = (((p.it.map Itm.id).idxOf l[m] : Nat) : Int) := (ZbV hmem).choose_spec.1;have hkx : (p.it.map Itm.id).idxOf l[m] < p.it.length := (ZbV hmem).choose;have hit : itmOf p l[m] = p.it[(p.it.map Itm.id).idxOf l[m]] := (ZbV hmem).choose_spec.2.1;have hci := hck _ (List.getElem_mem hkx);have hq := setQ_bound hp (l := l.take m) (fun x hx => hso.2 x (List.mem_of_mem_take hx)) (by rw [List.length_take]; omega) hrva;have hq2 := amtQ_eq p p.ro[acc.length].r (l.take m) p.ro[acc.length].n;have hd1 := bnd_sum hci p.ro[acc.length].r;rw [← rdelta_eq hrva] at hd1;simp only [Mx] at hd1;refine Zah [9] [] rfl rfl (fun _ => Zae (Zai rfl ZbO rfl rfl rfl)) ?_;refine Zao [50] rfl rfl (fun _ => Zae (Zaj rfl rfl rfl on2 rfl)) (Zah [2] [] rfl rfl (fun _ => Zae (Zai rfl ZaU rfl rfl rfl)) (Zao [52] rfl rfl (fun _ => Zae (Zaj rfl rfl rfl on23 rfl)) (Zao [2] rfl rfl (fun _ => Zae (Zap rfl rfl rw25 rfl rfl rfl)) (Zah [1] [] rfl rfl (fun _ => Zae (Zac rfl rfl)) (Zah [10] [] rfl rfl (fun _ => Zae (Zac rfl rfl)) (Zah [55, 56] [] rfl rfl (fun _ => Zae (Zay (m) rfl rfl (rfl) (getm hm1) Tryz.underlying28 rfl sz3 rfl)) (Zah [57] [] rfl rfl (fun _ => Zae (Zaz rfl rfl on3 rfl)) (Zah [54, 58] [] rfl rfl (fun _ => Zae (Zan (find_p p l[m] hb2) rfl rfl)) ?_))))))));refine Zah [53, 59] [] rfl rfl (fun _ => Zae (Zay ((p.it.map Itm.id).idxOf l[m]) rfl rfl (hix) (getm hkx) Tryz.underlying23 rfl sz64 rfl)) (Zah [60] [] rfl rfl (fun _ => Zae (ZaE rfl rfl rw64 rfl)) (Zah [9] [] rfl rfl (fun _ => Zae (Zai rfl Zbs rfl rfl rfl)) (Zao [62] rfl rfl (fun _ => Zae (Zap rfl rfl rw56 rfl rfl rfl)) (Zah [61, 63] [] rfl rfl (fun _ => Zae (Zan (rdelta_p p.it[(p.it.map Itm.id).idxOf l[m]] p.ro[acc.length].r (check_ok hci).1) rfl rfl)) (dwc 15 rfl rfl rfl (dw1 16 rfl rfl (Zaa.go (ZaG rfl rfl (IntWalk.i64_in _ (by omega)) rfl) (Zaf ⟨rfl, ?_⟩))))))));refine dw1 17 rfl rfl (Zaa.go (Zai rfl ZbO rfl rfl rfl) (Zaf ⟨rfl, ?_⟩));refine dw1 18 rfl rfl (Zam.go (ZaF rfl rfl rfl rfl rfl rfl rfl sz2) (Zaf ⟨rfl, ?_⟩));refine dwe (Zab (Zaa.go (Zac rfl rfl) (Zaa.go (ZaG rfl rfl (wrapS (m + 1) (by omega)) rfl) (Zaa.go (Zad rfl rfl) (Zaf ?_)))));exact ⟨m + 1, by show m + 1 ≤ _; omega, by show l.length - (m + 1) < l.length - m; omega, Zaw hF [2, 900, 1] rfl (by rw [amtQ_snoc p hm1, hit]; rfl) ⟨rfl, rfl, rfl, rfl, rfl, rfl, trivial⟩⟩
      · have hmf : l.take m = l := List.take_of_length_le (by have h := h47; omega);refine ZaQ (Zab (Zaa.go (Zac rfl rfl) (Zaa.go (Zap rfl rfl rw67 rfl rfl rfl) ?_)));refine Zam.go (ZaJ 3 sl22 rfl rfl rfl rfl rfl rfl rfl rfl) (Zam.go (Zbd (acc) ([⟨p.ro[acc.length].r, amtQ p (l.take m) p.ro[acc.length].r p.ro[acc.length].n⟩]) rfl rfl rfl rfl rfl rfl rfl rfl sl22 (by simp only [List.length_singleton]; omega) rfl rfl rfl rfl) (Zaa.go (Zad rfl rfl) (Zaf (Zab (Zaa.go (Zac rfl rfl) (Zaa.go (ZaG rfl rfl (wrapA acc (⟨p.ro[acc.length].r, amtQ p (l.take m) p.ro[acc.length].r p.ro[acc.length].n⟩ : Roo) (by omega)) rfl) (Zaa.go (Zad rfl rfl) (Zaf ?_))))))));exact ⟨acc ++ [⟨p.ro[acc.length].r, amtQ p (l.take m) p.ro[acc.length].r p.ro[acc.length].n⟩], ⟨by rw [List.length_append]; show acc.length + 1 ≤ _; omega, by rw [List.length_append]; show _ = (totR p l).take (acc.length + 1); rw [List.take_succ_eq_append_getElem (by unfold totR; simpa using ha1), ← hA]; congr 1; unfold totR; rw [hmf, List.getElem_map, amtQ_eq, setQ_eq hp (hE0.trans hz) hrva]⟩, by rw [List.length_append]; show p.ro.length - (acc.length + 1) < p.ro.length - acc.length; omega, Zaw hF [900, 1] rfl (rfl) ⟨rfl, rfl, rfl, rfl, trivial⟩⟩
    · refine ZaQ (Zag ?_);have hfa : acc = totR p l := by rw [hA]; exact List.take_of_length_le (by unfold totR; rw [List.length_map]; have h := h36; omega)
      refine ZbC (emb := rooD) 7 900 acc rfl rfl rfl rfl rfl rfl rfl (Zab (Zaa.go (Zac rfl rfl) (Zaa.go (Zad rfl rfl) (ZcB 4 rfl (Zaa.go (Zad rfl rfl) (Zaf (Zav ?_)))))));exact ⟨_, [], [], Zaq rfl, rfl, rfl, by rw [hz, hfa]; rfl, rfl⟩
end Go.Proofs.YtneihdahboilnaaGreat
/- Layer 28: the reference's Settle; conversion back. -/
namespace Go.Proofs.YtneihdahboilnaaGreat
open Go.RowKit

set_option maxRecDepth 100000 in
theorem refsettle_p (p : Prb) (l : List Int) (hp : prbE p = 0) (hb : PrbB p) (hl : l.length ≤ 1000) : PCalls Tryz.prog 31 [.d (prbD p), .d (.sl none (l.map intD))] (.tup [prbD (setlP p l), intD (setlE p l)]) := by
  have ht := reftotals_p p l hp hb hl;have hC : choE p l = setE (p.it.map Itm.id) l := if_neg (fun h => h hp);have hb2 := hb.2.1;have hb3 := hb.2.2
  by_cases hE : setE (p.it.map Itm.id) l = 0
  · have hR1 : (totR p l).length ≤ 100000 := by unfold totR; rw [List.length_map]; exact hb.1
    rw [if_pos hE, hE] at ht;have hS : setlE p l = if (totR p l).any outR then 12 else 0 := by unfold setlE; rw [hC, if_neg (by simpa using hE)]
    have hP : setlE p l = 0 → setlP p l = ⟨totR p l, setlI l p.it⟩ := fun h => if_pos h;have hP2 : setlE p l ≠ 0 → setlP p l = ⟨[], []⟩ := fun h => if_neg h
    obtain ⟨R, hR⟩ : ∃ R, totR p l = R := ⟨_, rfl⟩
    obtain ⟨X, hX⟩ : ∃ X, setlP p l = X := ⟨_, rfl⟩
    obtain ⟨e, he⟩ : ∃ e, setlE p l = e := ⟨_, rfl⟩
    rw [hR] at ht hP hR1 hS;rw [hX, he] at hP hP2;rw [he] at hS;rw [hX, he];refine ZaI Tryz.func31 rfl rfl Tryz.ntmps31 rfl rfl rfl fun F hF => (Zag (Zab (Zam.go (ZaS 1 rfl rfl rfl rfl rfl rfl rfl) (Zam.go (ZaX 2 zl25 rfl rfl rfl rfl) (Zaa.go (Zad rfl rfl) ?_)))));refine Zaf (Zag (Zab (Zaa.go (Zap rfl rfl rw25 rfl rfl rfl) (Zaa.go (Zac rfl rfl) (Zaa.go (Zan (ht) rfl rfl) (Zaa.go (Zac rfl rfl) (Zaa.go (ZaA rfl rfl rfl) (Zaa.go (ZaA rfl rfl rfl) ?_))))))));refine Zaa.go (Zad rfl rfl) (Zaa.go (Zad rfl rfl) (Zaf (Zag (Zag (Zab (Zaa.go (Zac rfl rfl) (Zaa.go (Za0 rfl rfl rfl) (Zaf ?_))))))));refine Za1 rfl ((by decide)) (Zas (Zag (Zag (Zab (Zaa.go (Zad rfl rfl) (Zaf (Zat (ZaO (α := Nat) (fun k => ⟨99, [(1, .d (.sl none (l.map intD))), (2, (.ptr 1 0 0)), (4, (.ptr 2 0 0)), (6, (.d (.sl none (R.map rooD)))), (8, (.d (intD (k : Int))))], [(1, [prbB2 25 p]), (2, [.blk 25 [nilC, nilC]])]⟩) (fun k => k ≤ R.length ∧ ∀ x ∈ R.take k, outR x = false) (fun k => R.length - k) (0) (⟨Nat.zero_le _, by simp⟩) (Zaw hF [1, 2] rfl rfl ⟨rfl, rfl, rfl, rfl, rfl, trivial⟩) ?_))))))));rintro k ⟨hk0, hk⟩;refine Zag (Zag (Zab (Zaa.go (Zac rfl rfl) (Zaa.go (Zac rfl rfl) (Zaa.go (ZaD rfl Tryz.underlying22 rfl) (Zaa.go (ZaM rfl rfl rfl) (Zaf (ZaK rfl (fun h27 => ?_) (fun h27 => ?_)))))))))
    · have hk1 : k < R.length := ZaP h27;refine Zas (Zag (Zat (Zag ?_)));refine Zab (Zaa.go (Zac rfl rfl) (Zaa.go (Zac rfl rfl) (Zaa.go (Zay (k) rfl rfl (rfl) (getm hk1) Tryz.underlying22 rfl sz67 rfl) (Zaa.go (Zau rfl ZbO rfl rfl rfl) (Zaa.go (Zaz rfl rfl on2 rfl) (Zaa.go (ZaM rfl rfl rfl) (Zaa.go (Zac rfl rfl) (Za3 36 rfl (fun h36 => ?_) (fun h36 => ?_)))))))))
      · refine Zak rfl rfl rfl rfl (Zak rfl rfl rfl rfl (Zak rfl rfl rfl rfl (Zak rfl rfl rfl rfl (Zak rfl rfl rfl rfl (Zak rfl rfl rfl rfl (Zaa.go (ZaB rfl rfl rfl rfl) (Zaf ?_)))))));refine ZaW rfl rfl (Zag (Zab (Zaa.go (Za5 zl25 pl25 rfl rfl rfl) (o_weakD 44 (prbD ⟨[], []⟩) rfl prb0_weak (Zam.go (ZaF rfl rfl rfl rfl rfl rfl rfl sz25) (Zaa.go (Zad rfl rfl) (Zaf (Zav ?_))))))));exact ⟨_, [], [], Zaq rfl, rfl, rfl, by have hany : R.any outR = true := List.any_eq_true.2 ⟨R[k], List.getElem_mem hk1, by unfold outR; simp; omega⟩; rw [hany] at hS; rw [hP2 (by rw [hS]; decide), hS]; rfl, rfl⟩
      · refine Zal rfl rfl rfl (Zaa.go (Zac rfl rfl) (Zal rfl rfl rfl (Zaa.go (Zac rfl rfl) (Zal rfl rfl rfl (Zaa.go (Zay (k) rfl rfl (rfl) (getm hk1) Tryz.underlying22 rfl sz67 rfl) ?_)))));refine Zal rfl rfl rfl (Zaa.go (Zau rfl ZbO rfl rfl rfl) (Zal rfl rfl rfl (Zaa.go (Zaz rfl rfl on2 rfl) (Zal rfl rfl rfl (Zaa.go (ZbJ rfl rfl rfl) (Zaa.go (ZaH rfl rfl rfl rfl) (Zaf (ZaK rfl (fun h43 => ?_) (fun h43 => ?_)))))))))
        · refine Zag (Zab (Zaa.go (Za5 zl25 pl25 rfl rfl rfl) (o_weakD 44 (prbD ⟨[], []⟩) rfl prb0_weak (Zam.go (ZaF rfl rfl rfl rfl rfl rfl rfl sz25) (Zaa.go (Zad rfl rfl) (Zaf (Zav ?_)))))));exact ⟨_, [], [], Zaq rfl, rfl, rfl, by have hany : R.any outR = true := List.any_eq_true.2 ⟨R[k], List.getElem_mem hk1, by unfold outR; simp; omega⟩; rw [hany] at hS; rw [hP2 (by rw [hS]; decide), hS]; rfl, rfl⟩
        · refine Zas (Zab (Zaa.go (Zac rfl rfl) (Zaa.go (ZaG rfl rfl (wrapS (k + 1) (by omega)) rfl) (Zaa.go (Zad rfl rfl) (Zaf ?_)))));exact ⟨k + 1, ⟨by show k + 1 ≤ _; omega, by rw [List.take_succ_eq_append_getElem hk1]; intro x hx; rcases List.mem_append.1 hx with hx | hx; exact hk x hx; rw [List.mem_singleton.1 hx]; unfold outR; simp; omega⟩, by show R.length - (k + 1) < R.length - k; omega, Zaw hF [1, 2] rfl (rfl) ⟨rfl, rfl, rfl, rfl, rfl, trivial⟩⟩
    · refine ZaQ (Zag ?_);have hall : R.any outR = false := by rw [List.take_of_length_le (by have h := h27; omega)] at hk; rw [List.any_eq_false]; intro x hx; rw [hk x hx]; simp
      rw [hall] at hS;have he0 : e = 0 := hS;refine Zab (Zaa.go (Zac rfl rfl) (Zaa.go (Za5 zl25 pl25 rfl rfl rfl) (Zam.go (ZaX 3 zl25 rfl rfl rfl rfl) (Zam.go (ZaF rfl rfl rfl rfl rfl rfl rfl sz25) ?_))));refine Zaf (Zag (Zag (Zci 3 0 1 902 sl23 rfl rfl rfl rfl rfl rfl rfl (Zab (Zaa.go (Zad rfl rfl) (Zaf (Zat (ZaO (α := Nat × List Itm) (fun q => ⟨99, [(1, .d (.sl none (l.map intD))), (2, (.ptr 1 0 0)), (4, (.ptr 2 0 0)), (9, (.ptr 3 0 0)), (10, (.d (intD (q.1 : Int))))], [(902, [.rowD 64 6 (q.2.map itmD)]), (1, [prbB2 25 p]), (2, [.blk 25 [nilC, nilC]]), (3, [.blk 25 [.d (.sl none (R.map rooD)), .own 902 0 q.2.length]])]⟩) (fun q => q.1 ≤ p.it.length ∧ q.2 = setlI l (p.it.take q.1)) (fun q => p.it.length - q.1) ((0, [])) (⟨Nat.zero_le _, rfl⟩) (Zaw hF [902, 1, 2, 3] rfl rfl ⟨rfl, rfl, rfl, rfl, rfl, trivial⟩) ?_))))))));rintro ⟨k, acc⟩ ⟨hk0, hA⟩;dsimp only at hk0 hA ⊢;refine Zag ?_;refine Zag (Zab (Zaa.go (Zac rfl rfl) (Zaa.go (Zai rfl ZaU rfl rfl rfl) (Zaa.go (Zaj rfl rfl rfl on23 rfl) (Zaa.go (ZaD rfl Tryz.underlying23 rfl) (Zaa.go (ZaM rfl rfl rfl) (Zaf (ZaK rfl (fun h51 => ?_) (fun h51 => ?_)))))))))
      · have hk1 : k < p.it.length := ZaP h51;refine Zas (Zag (Zat (Zag (Zag (Zab ?_)))));have hgi := hb3 _ (List.getElem_mem hk1);have hal : acc.length ≤ 100000 := by rw [hA]; exact Nat.le_trans (setlI_len _ _) (by rw [List.length_take]; omega)
        refine Zaa.go (Zac rfl rfl) ?_;refine Zaa.go (Zai rfl ZaU rfl rfl rfl) (Zaa.go (Zaj rfl rfl rfl on23 rfl) (Zaa.go (Zac rfl rfl) (Zaa.go (Zay (k) rfl rfl (rfl) (getm hk1) Tryz.underlying23 rfl sz64 rfl) (Zaa.go (Zau rfl Zb1 rfl rfl rfl) (Zaa.go (Zaz rfl rfl on3 rfl) (Zaa.go (Zan (has_p l p.it[k].id (by omega)) rfl rfl) (Zaf (ZaK rfl (fun h61 => ?_) (fun h61 => ?_)))))))))
        · refine ZaQ (Zab (Zaa.go (Zac rfl rfl) (Zaa.go (ZaG rfl rfl (wrapS (k + 1) (by omega)) rfl) (Zaa.go (Zad rfl rfl) (Zaf ?_)))));exact ⟨(k + 1, acc), ⟨by show k + 1 ≤ _; omega, by show acc = setlI l (p.it.take (k + 1)); rw [setlI_snoc_in hk1 h61]; exact hA⟩, by show p.it.length - (k + 1) < p.it.length - k; omega, Zaw hF [902, 1, 2, 3] rfl (rfl) ⟨rfl, rfl, rfl, rfl, rfl, trivial⟩⟩
        · refine Zas (Zag (Zab (Zaa.go (Zai rfl ZaU rfl rfl rfl) (Zaa.go (Zaj rfl rfl rfl on23 rfl) ?_))));refine Zaa.go (Zac rfl rfl) (Zaa.go (Zay (k) rfl rfl (rfl) (getm hk1) Tryz.underlying23 rfl sz64 rfl) (Zaa.go (ZaE rfl rfl rw64 rfl) (Zam.go (ZaX 4 zl64 rfl rfl rfl rfl) (Zam.go (ZaF rfl rfl rfl rfl rfl rfl rfl sz64) (Zaf (Zag (Zab (Zaa.go (Zad rfl rfl) ?_))))))));refine Zaf (Zag (Zag (Zca 12 903 sl28 rfl rfl rfl rfl (Zab (Zaa.go (Zad rfl rfl) (Zaf (Zat (ZaO (α := Nat × List Int) (fun q => ⟨99, [(1, .d (.sl none (l.map intD))), (2, (.ptr 1 0 0)), (4, (.ptr 2 0 0)), (9, (.ptr 3 0 0)), (10, (.d (intD (k : Int)))), (11, (.ptr 4 0 0)), (12, (.own 903 0 q.2.length)), (13, (.d (intD (q.1 : Int))))], [(903, [.rowD 3 1 (q.2.map intD)]), (4, [itmB 64 p.it[k]]), (902, [.rowD 64 6 (acc.map itmD)]), (1, [prbB2 25 p]), (2, [.blk 25 [nilC, nilC]]), (3, [.blk 25 [.d (.sl none (R.map rooD)), .own 902 0 acc.length]])]⟩) (fun q => q.1 ≤ p.it[k].af.length ∧ q.2 = kept l (p.it[k].af.take q.1)) (fun q => p.it[k].af.length - q.1) ((0, [])) (⟨Nat.zero_le _, rfl⟩) (Zaw hF [903, 4, 902, 1, 2, 3] rfl rfl ⟨rfl, rfl, rfl, rfl, rfl, rfl, rfl, rfl, trivial⟩) ?_))))))));rintro ⟨j, afs⟩ ⟨hj0, hB⟩;dsimp only at hj0 hB ⊢;refine Zag ?_;refine Zag (Zab (Zaa.go (Zac rfl rfl) (Zaa.go (Zai rfl Zbk rfl rfl rfl) (Zaa.go (Zaj rfl rfl rfl on28 rfl) (Zaa.go (ZaD rfl Tryz.underlying28 rfl) (Zaa.go (ZaM rfl rfl rfl) (Zaf (ZaK rfl (fun h71 => ?_) (fun h71 => ?_)))))))))
          · have hj1 : j < p.it[k].af.length := ZaP h71;refine Zas (Zag (Zat (Zag (Zab (Zaa.go (Zac rfl rfl) ?_)))));refine Zaa.go (Zai rfl Zbk rfl rfl rfl) (Zaa.go (Zaj rfl rfl rfl on28 rfl) (Zaa.go (Zac rfl rfl) (Zaa.go (Zay (j) rfl rfl (rfl) (getm hj1) Tryz.underlying28 rfl sz3 rfl) (Zaa.go (Zaz rfl rfl on3 rfl) (Zaa.go (Zan (has_p l p.it[k].af[j] (by omega)) rfl rfl) (Zaa.go (Zbp rfl rfl) (Zaf (ZaK rfl (fun h81 => ?_) (fun h81 => ?_)))))))))
            · refine Zab (Zaa.go (Zac rfl rfl) (Zaa.go (Zai rfl Zbk rfl rfl rfl) (Zaa.go (Zaj rfl rfl rfl on28 rfl) (Zaa.go (Zac rfl rfl) (Zaa.go (Zay (j) rfl rfl (rfl) (getm hj1) Tryz.underlying28 rfl sz3 rfl) (Zaa.go (Zaz rfl rfl on3 rfl) ?_))))));have hbl : afs.length ≤ 100000 := by rw [hB]; exact Nat.le_trans (kept_le _ _) (by rw [List.length_take]; omega)
              refine Zam.go (ZaJ 5 sl28 rfl rfl rfl rfl rfl rfl rfl rfl) (Zam.go (Zbd (afs) ([p.it[k].af[j]]) rfl rfl rfl rfl rfl rfl rfl rfl sl28 (by simp only [List.length_singleton]; omega) rfl rfl rfl rfl) (Zaa.go (Zad rfl rfl) (Zaf (Zab (Zaa.go (Zac rfl rfl) (Zaa.go (ZaG rfl rfl (wrapS (j + 1) (by omega)) rfl) (Zaa.go (Zad rfl rfl) (Zaf ?_))))))));exact ⟨(j + 1, afs ++ [p.it[k].af[j]]), ⟨by show j + 1 ≤ _; omega, by show afs ++ [p.it[k].af[j]] = kept l (p.it[k].af.take (j + 1)); rw [kept_in hj1 (decide_eq_false h81), hB]⟩, by show p.it[k].af.length - (j + 1) < p.it[k].af.length - j; omega, Zaw hF [903, 4, 902, 1, 2, 3] rfl (rfl) ⟨rfl, rfl, rfl, rfl, rfl, rfl, rfl, rfl, trivial⟩⟩
            · refine Zas (Zab (Zaa.go (Zac rfl rfl) (Zaa.go (ZaG rfl rfl (wrapS (j + 1) (by omega)) rfl) (Zaa.go (Zad rfl rfl) (Zaf ?_)))));exact ⟨(j + 1, afs), ⟨by show j + 1 ≤ _; omega, by show afs = kept l (p.it[k].af.take (j + 1)); rw [kept_out hj1 (decide_eq_true (Decidable.not_not.1 h81)), hB]⟩, by show p.it[k].af.length - (j + 1) < p.it[k].af.length - j; omega, Zaw hF [903, 4, 902, 1, 2, 3] rfl (rfl) ⟨rfl, rfl, rfl, rfl, rfl, rfl, rfl, rfl, trivial⟩⟩
          · refine ZaQ (Zag (Zab (Zaa.go (Zac rfl rfl) (Zaa.go (Zai rfl Zbk rfl rfl rfl) (Zam.go (ZaF rfl rfl rfl rfl rfl rfl rfl sz28) (Zaf ?_))))));have hfb : afs = kept l p.it[k].af := by rw [hB, List.take_of_length_le (by have h := h71; omega)]
            refine ZbE (ys := (kept l p.it[k].af).map intD) 4 0 5 903 rfl rfl rfl (by simp) (by rw [hfb]; exact List.take_of_length_le (by simp)) rfl rfl rfl rfl rfl rfl (Zab (Zaa.go (Zai rfl ZaU rfl rfl rfl) (Zaa.go (Zaj rfl rfl rfl on23 rfl) (Zaa.go (Zap rfl rfl rw64 rfl rfl rfl) (Zam.go (ZaJ 6 sl23 rfl rfl rfl rfl rfl rfl rfl rfl) ?_)))));refine Zam.go (Zbd (acc) ([restI l p.it[k]]) rfl rfl rfl rfl rfl rfl rfl rfl sl23 (by simp only [List.length_singleton]; omega) rfl rfl rfl rfl) (Zaa.go (Zai rfl ZaU rfl rfl rfl) (Zam.go (ZaF rfl rfl rfl rfl rfl rfl rfl sz23) (Zaf (Zab (Zaa.go (Zac rfl rfl) (Zaa.go (ZaG rfl rfl (wrapS (k + 1) (by omega)) rfl) (Zaa.go (Zad rfl rfl) (Zaf ?_))))))));exact ⟨(k + 1, acc ++ [restI l p.it[k]]), ⟨by show k + 1 ≤ _; omega, by show acc ++ [restI l p.it[k]] = setlI l (p.it.take (k + 1)); rw [setlI_snoc_out hk1 h61, hA]⟩, by show p.it.length - (k + 1) < p.it.length - k; omega, Zaw hF [902, 1, 2, 3] rfl (rfl) ⟨rfl, rfl, rfl, rfl, rfl, trivial⟩⟩
      · refine ZaQ (Zag ?_);have hfa : acc = setlI l p.it := by rw [hA, List.take_of_length_le (by have h := h51; omega)]
        refine ZbE (ys := (setlI l p.it).map itmD) 3 0 1 902 rfl rfl rfl (by simp) (by rw [hfa]; exact List.take_of_length_le (by simp)) rfl rfl rfl rfl rfl rfl (Zab (Zaa.go (Zap rfl rfl rw25 rfl rfl rfl) (Zam.go (ZaF rfl rfl rfl rfl rfl rfl rfl sz25) (Zaa.go (Zad rfl rfl) (Zaf (Zav ?_))))));exact ⟨_, [], [], Zaq rfl, rfl, rfl, by rw [hP he0, he0], rfl⟩
  · have hS : setlE p l = setE (p.it.map Itm.id) l := by unfold setlE; rw [hC, if_pos hE]
    have hP : setlP p l = ⟨[], []⟩ := if_neg (by rw [hS]; exact hE);rw [if_neg hE] at ht;rw [hS, hP];refine ZaI Tryz.func31 rfl rfl Tryz.ntmps31 rfl rfl rfl fun F hF => (Zag (Zab (Zam.go (ZaS 1 rfl rfl rfl rfl rfl rfl rfl) (Zam.go (ZaX 2 zl25 rfl rfl rfl rfl) (Zaa.go (Zad rfl rfl) (Zaf ?_))))));refine Zag (Zab (Zaa.go (Zap rfl rfl rw25 rfl rfl rfl) (Zaa.go (Zac rfl rfl) (Zaa.go (Zan (ht) rfl rfl) (Zaa.go (Zac rfl rfl) (Zaa.go (ZaA rfl rfl rfl) (Zaa.go (ZaA rfl rfl rfl) (Zaa.go (Zad rfl rfl) ?_))))))));refine Zaa.go (Zad rfl rfl) (Zaf (Zag (Zag (Zab (Zaa.go (Zac rfl rfl) (Zaa.go (Za0 rfl rfl rfl) (Zaf (ZaW rfl ((decide_eq_true hE)) ?_))))))));refine Zag (Zab (Zaa.go (Za5 zl25 pl25 rfl rfl rfl) (o_weakD 22 (prbD ⟨[], []⟩) rfl prb0_weak (Zaa.go (Zac rfl rfl) (Zam.go (ZaF rfl rfl rfl rfl rfl rfl rfl sz25) (Zaa.go (Zad rfl rfl) (Zaf (Zav ?_))))))));exact ⟨_, [], [], Zaq rfl, rfl, rfl, rfl, rfl⟩
end Go.Proofs.YtneihdahboilnaaGreat
