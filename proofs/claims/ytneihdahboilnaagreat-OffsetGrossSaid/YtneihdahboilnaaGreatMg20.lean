/- Layer 28: the reference's order of items; conversion back. -/
import Derived.Test.YtneihdahboilnaaGreatMg19
namespace Go.Proofs.YtneihdahboilnaaGreat
open Go.RowKit
set_option maxRecDepth 100000
def insO : List Itm → Itm → List Itm
  | [],x => [x]
  | a :: l,x => if ∀ y ∈ a :: l,ordI x y < 0 then x :: a :: l else a :: insO l x
theorem insO_at : ∀ {l : List Itm} {x : Itm} {k : Nat},k ≤ l.length → (∀ y ∈ l.drop k,ordI x y < 0) → (∀ (_ : 0 < k) y,l[k - 1]? = some y → ¬ ordI x y < 0) → insO l x = (l.take k ++ [x]) ++ l.drop k
  | [],x,0,_,_,_ => rfl
  | [],x,k + 1,h,_,_ => by simp at h
  | a :: l,x,0,_,h,_ => by simp only [insO]; rw [if_pos (by simpa using h)]; rfl
  | a :: l,x,k + 1,hk,h,h2 => by
    have hk' : k ≤ l.length := by simpa using hk
    have hl : k < (a :: l).length := Nat.lt_succ_of_le hk';have hn : ¬ ∀ y ∈ a :: l,ordI x y < 0 := fun hall => h2 (by omega) _ (List.getElem?_eq_getElem hl) (hall _ (List.getElem_mem hl));simp only [insO]
    rw [if_neg hn,insO_at (k := k) hk' (by simpa using h) fun h0 y hy => h2 (by omega) y (by
      obtain ⟨m,rfl⟩ : ∃ m,k = m + 1 := ⟨k - 1,by omega⟩
      simpa using hy)]
    simp
def sortO (l : List Itm) : List Itm := l.foldl insO []
theorem insO_len (l : List Itm) (x : Itm) : (insO l x).length = l.length + 1 := by
  induction l with
  | nil => rfl
  | cons a l ih =>
    simp only [insO]; split
    · rfl
    · simp only [List.length_cons,ih]
theorem sortO_snoc (l : List Itm) (x : Itm) : sortO (l ++ [x]) = insO (sortO l) x := by simp [sortO]
theorem ZbP (l : List Itm) : (sortO l).length = l.length := by
  induction l using ZbZ with
  | h0 => rfl
  | h1 l x ih => rw [sortO_snoc,insO_len,ih]; simp
theorem refsorted_p (l : List Itm) (hl : l.length ≤ 1000) : PCalls Tryz.prog 58 [.d (.sl none (l.map itmD))] (.sl none ((sortO l).map itmD)) := by
  refine ZaB Tryz.func58 rfl rfl Tryz.ntmps58 rfl rfl rfl fun F hF => (Zad ?_);refine Zab (goAs rfl rfl (Zac (Zad (Zab (goAs rfl rfl (Zac (Zad (Zad ?_))))))));refine a_anyNil 3 rfl ?_;refine Zab (goAs rfl rfl (Zac (Zam (ZaK (α := Nat × List Itm) (fun q => ⟨49,[(0, .d (.sl none (l.map itmD))),(3,(.d (.sl none (q.2.map itmD)))),(4,(.d (intD (q.1 : Int))))],[]⟩) (fun q => q.1 ≤ l.length ∧ q.2 = sortO (l.take q.1)) (fun q => l.length - q.1) ((0,[])) (⟨Nat.zero_le _,rfl⟩) (Zaq hF [] rfl rfl ⟨rfl,rfl,rfl,trivial⟩) ?_))));rintro ⟨k,out⟩ ⟨hk0,hO⟩;dsimp only at hk0 hO ⊢;refine Zad (Zad (Zab (goMv rfl rfl (goMv rfl rfl (Zaa.go (ZaA rfl Tryz.underlying23 rfl) (Zaa.go (ZaI rfl rfl rfl) (Zac (ZaF rfl (fun h10 => ?_) (fun h10 => ?_)))))))))
  · have hk1 : k < l.length := ZaN h10;refine Zap (Zad (Zam (Zad ?_)));have hol : out.length ≤ 1000 := by rw [hO,ZbP,List.length_take]; omega
    refine Zab (goMv rfl rfl (Zaa.go (ZaA rfl Tryz.underlying23 rfl) (goAs rfl rfl (Zac (Zad (Zam (ZaK (α := Nat) (fun m => ⟨49,[(0, .d (.sl none (l.map itmD))),(3,(.d (.sl none (out.map itmD)))),(4,(.d (intD (k : Int)))),(5,(.d (intD (m : Int))))],[]⟩) (fun m => m ≤ out.length ∧ ∀ y ∈ out.drop m,ordI l[k] y < 0) (fun m => m) (out.length) (⟨Nat.le_refl _,by simp⟩) (Zaq hF [] rfl rfl ⟨rfl,rfl,rfl,rfl,trivial⟩) ?_)))))));rintro m ⟨hm0,hm⟩;refine Zad (Zad (ZaT [[],[0],[0,1],[0,1,2],[0,1,2],[0,1,2,3,4],[0,1,2,3,4,5],[0,1,2],[0,1,2],[0,1,2,8],[0,1,2,7,8,9],[0,1,2,7,8,9,10],[0,1,2,3,4,5,6,7,8,9,10,11],[0,1,2,3,4,5,6,7,8,9,10,11,12]] mixed rfl (dw1 1 rfl rfl (goMv rfl rfl (Zac ⟨rfl, ?_⟩)))));refine dw1 2 rfl rfl (Zaa.go (Zbv rfl rfl rfl) (Zac ⟨rfl, ?_⟩));refine dw1 3 rfl rfl (goMv rfl rfl (ZaP 17 rfl (fun h17 => ?_) (fun h17 => ?_)))
    · refine Zac ⟨rfl, ?_⟩;refine dws ?_
      try have hm1 : m - 1 < out.length := by have h := h17; omega
      refine Zaf [0,17] [] rfl rfl (fun _ => ZaX rfl rfl rfl (Zar rfl rfl)) (Zaf [4,17] [] rfl rfl (fun _ => ZaX rfl rfl rfl (Zar rfl rfl)) (Zaf [18,19,17] [] rfl rfl (fun _ => ZaX rfl rfl rfl (Zat (k) rfl rfl (rfl) (getm hk1) Tryz.underlying23 rfl sz64 rfl)) (Zaf [20,17] [] rfl rfl (fun _ => ZaX rfl rfl rfl (ZaC rfl rfl rw64 rfl)) (Zaf [3,17] [] rfl rfl (fun _ => ZaX rfl rfl rfl (Zar rfl rfl)) ?_))));refine Zaf [5,17] [] rfl rfl (fun _ => ZaX rfl rfl rfl (Zar rfl rfl)) (Zaf [23,17] [] rfl rfl (fun _ => ZaX rfl rfl rfl (st_sub rfl rfl (show IntKind.i64.wrap ((m : Int) - 1) = ((m - 1 : Nat) : Int) from by rw [show ((m - 1 : Nat) : Int) = (m : Int) - 1 by omega]; exact IntWalk.i64_in _ (by omega)) rfl)) (Zaf [22,24,17] [] rfl rfl (fun _ => ZaX rfl rfl rfl (Zat (m - 1) rfl rfl (rfl) (getm hm1) Tryz.underlying23 rfl sz64 rfl)) (Zaf [25,17] [] rfl rfl (fun _ => ZaX rfl rfl rfl (ZaC rfl rfl rw64 rfl)) (dwc 12 rfl rfl rfl (dw1 13 rfl rfl (Zal rfl rfl rfl (Zaa.go (Zau (refbefore_p l[k] out[m - 1]) rfl rfl) (Zac ⟨rfl, ?_⟩))))))));refine dw1 14 rfl rfl (Zaa.go (Zaw rfl rfl rfl rfl) (Zac ⟨rfl, ?_⟩));refine dwe (ZaF rfl (fun h28 => ?_) (fun h28 => ?_))
      · refine Zap (Zam (Zab (goMv rfl rfl (Zaa.go (st_sub rfl rfl (show IntKind.i64.wrap ((m : Int) - 1) = ((m - 1 : Nat) : Int) from by rw [show ((m - 1 : Nat) : Int) = (m : Int) - 1 by omega]; exact IntWalk.i64_in _ (by omega)) rfl) (goAs rfl rfl (Zac ?_))))));exact ⟨m - 1,⟨by show m - 1 ≤ _; omega,by rw [List.drop_eq_getElem_cons hm1]; intro y hy; rcases List.mem_cons.1 hy with hy | hy; rw [hy]; exact h28; exact hm y (by rw [show m - 1 + 1 = m by omega] at hy; exact hy)⟩,by show m - 1 < m; omega,Zaq hF [] rfl (rfl) ⟨rfl,rfl,rfl,rfl,trivial⟩⟩
      · refine ZaL (Zad ?_);have hstop : ∀ (h : 0 < m) y,out[m - 1]? = some y → ¬ ordI l[k] y < 0 := by first | (intro h y hy; exact absurd h (by omega)) | (intro h y hy; rw [List.getElem?_eq_getElem hm1] at hy; injection hy with hy; rw [← hy]; exact h28)
        refine Zab (Zaj.go (ZaD 20 sl23 rfl rfl rfl rfl rfl rfl rfl rfl) (goMv rfl rfl (goMv rfl rfl (Zaa.go (ZbS (out) (m) rfl rfl rfl (rfl) (by omega) Tryz.underlying23 sz64 (fun _ => rfl) rfl) (Zaj.go (Zbj (([] : List Itm)) (out.take m) rfl rfl rfl rfl rfl rfl (fun _ => rfl) sl23 (by simp only [List.length_nil,List.length_take]; omega) rfl rfl rfl rfl) (goAs rfl rfl ?_))))));refine Zac (Zad (Zab (goMv rfl rfl (goMv rfl rfl (goMv rfl rfl (Zaa.go (Zat (k) rfl rfl (rfl) (getm hk1) Tryz.underlying23 rfl sz64 rfl) (Zaa.go (ZaC rfl rfl rw64 rfl) (Zaj.go (ZaD 21 sl23 rfl rfl rfl rfl rfl rfl rfl rfl) ?_))))))));refine Zaj.go (Zbc (([] ++ out.take m)) ([l[k]]) rfl rfl rfl rfl rfl rfl rfl rfl sl23 (by simp only [List.nil_append,List.length_singleton,List.length_take]; omega) rfl rfl rfl rfl) ?_;refine goAs rfl rfl (Zac (Zab (goMv rfl rfl (goMv rfl rfl (goMv rfl rfl (Zaa.go (Zb9 (out) (m) rfl rfl rfl (rfl) (by omega) Tryz.underlying23 sz64 (fun _ => rfl) rfl) ?_))))));refine Zaj.go (Zbj ((([] ++ out.take m) ++ [l[k]])) (out.drop m) rfl rfl rfl rfl rfl rfl (fun _ => rfl) sl23 (by simp only [List.nil_append,List.length_append,List.length_singleton,List.length_take,List.length_drop]; omega) rfl rfl rfl rfl) ?_;refine ZbY (emb := itmD) 47 20 ((([] ++ out.take m) ++ [l[k]]) ++ out.drop m) rfl rfl rfl rfl rfl rfl rfl (goAs rfl rfl (Zac (Zab (goMv rfl rfl (Zaa.go (Zay rfl rfl (wrapS (k + 1) (by omega)) rfl) (goAs rfl rfl (Zac ?_)))))));exact ⟨(k + 1,_),⟨by show k + 1 ≤ _; omega,by show _ = sortO (l.take (k + 1)); rw [List.take_succ_eq_append_getElem hk1,sortO_snoc, ← hO,insO_at hm0 hm hstop]; rfl⟩,by show l.length - (k + 1) < l.length - k; omega,Zaq hF [] rfl (rfl) ⟨rfl,rfl,rfl,trivial⟩⟩
    · refine Zac ⟨rfl, ?_⟩;refine dws ?_
      try have hm1 : m - 1 < out.length := by have h := h17; omega
      refine Zaf [0,17] [] rfl rfl (fun _ => ZaZ rfl rfl rfl rfl) (Zaf [4,17] [] rfl rfl (fun _ => ZaZ rfl rfl rfl rfl) (Zaf [18,19,17] [] rfl rfl (fun _ => ZaZ rfl rfl rfl rfl) (Zaf [20,17] [] rfl rfl (fun _ => ZaZ rfl rfl rfl rfl) ?_)));refine Zaf [3,17] [] rfl rfl (fun _ => ZaZ rfl rfl rfl rfl) (Zaf [5,17] [] rfl rfl (fun _ => ZaZ rfl rfl rfl rfl) (Zaf [23,17] [] rfl rfl (fun _ => ZaZ rfl rfl rfl rfl) (Zaf [22,24,17] [] rfl rfl (fun _ => ZaZ rfl rfl rfl rfl) (Zaf [25,17] [] rfl rfl (fun _ => ZaZ rfl rfl rfl rfl) (dwc 12 rfl rfl rfl (dw1 13 rfl rfl (Zai rfl rfl rfl rfl (Zac ⟨rfl, ?_⟩))))))));refine dw1 14 rfl rfl (Zaa.go (ZaG rfl rfl rfl rfl) (Zac ⟨rfl, ?_⟩));refine dwe (Za9 rfl rfl (ZaL (Zad ?_)));have hstop : ∀ (h : 0 < m) y,out[m - 1]? = some y → ¬ ordI l[k] y < 0 := by first | (intro h y hy; exact absurd h (by omega)) | (intro h y hy; rw [List.getElem?_eq_getElem hm1] at hy; injection hy with hy; rw [← hy]; exact h28)
      refine Zab (Zaj.go (ZaD 20 sl23 rfl rfl rfl rfl rfl rfl rfl rfl) (goMv rfl rfl (goMv rfl rfl (Zaa.go (ZbS (out) (m) rfl rfl rfl (rfl) (by omega) Tryz.underlying23 sz64 (fun _ => rfl) rfl) (Zaj.go (Zbj (([] : List Itm)) (out.take m) rfl rfl rfl rfl rfl rfl (fun _ => rfl) sl23 (by simp only [List.length_nil,List.length_take]; omega) rfl rfl rfl rfl) (goAs rfl rfl ?_))))));refine Zac (Zad (Zab (goMv rfl rfl (goMv rfl rfl (goMv rfl rfl (Zaa.go (Zat (k) rfl rfl (rfl) (getm hk1) Tryz.underlying23 rfl sz64 rfl) (Zaa.go (ZaC rfl rfl rw64 rfl) (Zaj.go (ZaD 21 sl23 rfl rfl rfl rfl rfl rfl rfl rfl) ?_))))))));refine Zaj.go (Zbc (([] ++ out.take m)) ([l[k]]) rfl rfl rfl rfl rfl rfl rfl rfl sl23 (by simp only [List.nil_append,List.length_singleton,List.length_take]; omega) rfl rfl rfl rfl) ?_;refine goAs rfl rfl (Zac (Zab (goMv rfl rfl (goMv rfl rfl (goMv rfl rfl (Zaa.go (Zb9 (out) (m) rfl rfl rfl (rfl) (by omega) Tryz.underlying23 sz64 (fun _ => rfl) rfl) ?_))))));refine Zaj.go (Zbj ((([] ++ out.take m) ++ [l[k]])) (out.drop m) rfl rfl rfl rfl rfl rfl (fun _ => rfl) sl23 (by simp only [List.nil_append,List.length_append,List.length_singleton,List.length_take,List.length_drop]; omega) rfl rfl rfl rfl) ?_;refine ZbY (emb := itmD) 47 20 ((([] ++ out.take m) ++ [l[k]]) ++ out.drop m) rfl rfl rfl rfl rfl rfl rfl (goAs rfl rfl (Zac (Zab (goMv rfl rfl (Zaa.go (Zay rfl rfl (wrapS (k + 1) (by omega)) rfl) (goAs rfl rfl (Zac ?_)))))));exact ⟨(k + 1,_),⟨by show k + 1 ≤ _; omega,by show _ = sortO (l.take (k + 1)); rw [List.take_succ_eq_append_getElem hk1,sortO_snoc, ← hO,insO_at hm0 hm hstop]; rfl⟩,by show l.length - (k + 1) < l.length - k; omega,Zaq hF [] rfl (rfl) ⟨rfl,rfl,rfl,trivial⟩⟩
  · refine ZaL (Zad (Zab (goMv rfl rfl (goAs rfl rfl (Zac (Zao ?_))))));exact ⟨_,[],[],Zak rfl,rfl,rfl,by rw [hO,List.take_of_length_le (by have h := h10; omega)],rfl⟩
def qIds (l : List Itm) (r : Rsc) : List Int := (l.filter fun i => decide (dltE i r < 0)).map Itm.id
theorem refqueue_p (p : Prb) (r : Rsc) (g2 : p.it.length ≤ 1000) (g3 : ∀ i ∈ sortO p.it,i.po.length ≤ 1000 ∧ i.pa.length ≤ 1000 ∧ i.af.length ≤ 1000) : PCalls Tryz.prog 71 [.d (prbD p), .d (rscD r)] (.sl none ((qIds (sortO p.it) r).map intD)) := by
  obtain ⟨S,hS⟩ : ∃ S,sortO p.it = S := ⟨_,rfl⟩
  have hso := refsorted_p p.it g2;have hSl : S.length ≤ 1000 := by rw [← hS,ZbP]; exact g2
  rw [hS] at hso g3 ⊢;refine ZaB Tryz.func71 rfl rfl Tryz.ntmps71 rfl rfl rfl fun F hF => (Zad (Zab (Zaj.go (ZaS 1 rfl rfl rfl rfl rfl rfl rfl) (Zaj.go (ZaS 2 rfl rfl rfl rfl rfl rfl rfl) (goAs rfl rfl (Zac (Zad ?_)))))));refine Zab (goAs rfl rfl (Zac (Zad (Zab (Zaa.go (Zag rfl Za3 rfl rfl rfl) (Zaa.go (Zah rfl rfl rfl on23 rfl) (Zaa.go (Zau (hso) rfl rfl) (goAs rfl rfl ?_))))))));refine Zac (Zad (Zad (a_adopt 5 900 sl28 rfl rfl rfl rfl (Zab (goAs rfl rfl (Zac (Zam (ZaK (α := Nat × List Int) (fun q => ⟨33,[(3,(.ptr 2 0 0)),(5,(.own 900 0 q.2.length)),(6,(.d (.sl none (S.map itmD)))),(7,(.d (intD (q.1 : Int))))],[(2,[.blk 56 [.d (intD r.k), .d (strD r.acc.o), .d (intD r.acc.k), .d (strD r.acc.a), .d (strD r.f), .d (strD r.t)]]),(900,[.rowD 3 1 (q.2.map intD)])]⟩) (fun q => q.1 ≤ S.length ∧ q.2 = qIds (S.take q.1) r) (fun q => S.length - q.1) ((0,[])) (⟨Nat.zero_le _,rfl⟩) (Zaq hF [2,900] rfl rfl ⟨rfl,rfl,rfl,rfl,trivial⟩) ?_))))))));rintro ⟨k,acc⟩ ⟨hk0,hA⟩;dsimp only at hk0 hA ⊢;refine Zad (Zad (Zab (goMv rfl rfl (goMv rfl rfl (Zaa.go (ZaA rfl Tryz.underlying23 rfl) (Zaa.go (ZaI rfl rfl rfl) (Zac (ZaF rfl (fun h14 => ?_) (fun h14 => ?_)))))))))
  · have hk1 : k < S.length := ZaN h14;refine Zap (Zad (Zam (Zad (ZaT [[],[],[0,1],[0,1,2],[],[0,1,2,3,4],[0,1,2,3,4,5]] mixed rfl (dws ?_)))));have hgi := g3 _ (List.getElem_mem hk1);have hal : acc.length ≤ 1000 := by rw [hA]; unfold qIds; rw [List.length_map]; have := List.length_filter_le (fun i => decide (dltE i r < 0)) (S.take k); rw [List.length_take] at this; omega
    refine Zaf [6] [] rfl rfl (fun _ => Zae (Zar rfl rfl)) (Zaf [7] [] rfl rfl (fun _ => Zae (Zar rfl rfl)) (Zaf [17,18] [] rfl rfl (fun _ => Zae (Zat (k) rfl rfl (rfl) (getm hk1) Tryz.underlying23 rfl sz64 rfl)) (Zaf [19] [] rfl rfl (fun _ => Zae (ZaC rfl rfl rw64 rfl)) (Zan [3] rfl rfl (fun _ => Zae (Zas rfl rfl rw56 rfl rfl rfl)) (dwc 5 rfl rfl rfl (dw1 6 rfl rfl (Zaa.go (Zau (refdelta_p S[k] r hgi.1 hgi.2.1 hgi.2.2) rfl rfl) (Zac ⟨rfl, ?_⟩))))))));refine dw1 7 rfl rfl (Zaa.go (ZaI rfl rfl rfl) (Zac ⟨rfl, ?_⟩));refine dwe (ZaF rfl (fun h23 => ?_) (fun h23 => ?_))
    · refine Zab (goMv rfl rfl (goMv rfl rfl (goMv rfl rfl (Zaa.go (Zat (k) rfl rfl (rfl) (getm hk1) Tryz.underlying23 rfl sz64 rfl) (Zaa.go (ZaJ rfl fi64_0 rfl rfl rfl) (Zaa.go (ZaE rfl rfl on3 rfl) ?_))))));refine Zaj.go (ZaD 3 sl28 rfl rfl rfl rfl rfl rfl rfl rfl) (Zaj.go (Zbc (acc) ([S[k].id]) rfl rfl rfl rfl rfl rfl rfl rfl sl28 (by simp only [List.length_singleton]; omega) rfl rfl rfl rfl) (goAs rfl rfl (Zac (Zab (goMv rfl rfl (Zaa.go (Zay rfl rfl (wrapS (k + 1) (by omega)) rfl) (goAs rfl rfl (Zac ?_))))))));exact ⟨(k + 1,_),⟨by show k + 1 ≤ _; omega,by show _ = qIds (S.take (k + 1)) r; unfold qIds; rw [flt_snoc hk1,if_pos (by simpa using h23),List.map_append,hA]; rfl⟩,by show S.length - (k + 1) < S.length - k; omega,Zaq hF [2,900] rfl (rfl) ⟨rfl,rfl,rfl,rfl,trivial⟩⟩
    · refine Zap (Zab (goMv rfl rfl (Zaa.go (Zay rfl rfl (wrapS (k + 1) (by omega)) rfl) (goAs rfl rfl (Zac ?_)))));exact ⟨(k + 1,_),⟨by show k + 1 ≤ _; omega,by show _ = qIds (S.take (k + 1)) r; unfold qIds; rw [flt_snoc hk1,if_neg (by simpa using h23),List.append_nil,hA]; rfl⟩,by show S.length - (k + 1) < S.length - k; omega,Zaq hF [2,900] rfl (rfl) ⟨rfl,rfl,rfl,rfl,trivial⟩⟩
  · refine ZaL (Zad (ZbH (emb := intD) 5 900 acc rfl rfl rfl rfl rfl rfl rfl (Zab (goMv rfl rfl (goAs rfl rfl (Zac (Zao ?_)))))));exact ⟨_,[],[],Zak rfl,rfl,rfl,by rw [hA,List.take_of_length_le (by have h := h14; omega)],rfl⟩
theorem cloneP_p (l : List Post) (hl : l.length ≤ 1000000) : PCalls Tryz.prog 106 [.d (.sl none (l.map postD))] (.sl none (l.map postD)) := by
  refine ZaB Tryz.func106 rfl rfl Tryz.ntmps106 rfl rfl rfl fun F hF => (Zad ?_);refine Zab (goAs rfl rfl (o_anyNil 2 rfl (Zac (Zad (Zad (Zab (goMv rfl rfl (o_nilSplit 3 rfl (fun h0 => ?_) ?_))))))))
  · refine Zaa.go (st_eqlN Tryz.underlying88 rfl rfl) (Zac (ZaU rfl (rfl) (Zad (Zab (goAs rfl rfl (o_anyNil 2 rfl (Zac (Zao ?_))))))));exact ⟨_,[],[],Zak rfl,rfl,rfl,by first | (rw [h0]; done) | (rw [h0]),rfl⟩
  · refine Zaa.go (st_eqlN Tryz.underlying88 rfl rfl) (Zac ?_);refine Za9 rfl (rfl) (Zap (Zad (Zab (Zaj.go (ZaD 20 sl88 rfl rfl rfl rfl rfl rfl rfl rfl) (goMv rfl rfl (Zaj.go (Zbj (([] : List Post)) (l) rfl rfl rfl rfl rfl rfl (fun _ => rfl) sl88 (by simp only [List.length_nil]; omega) rfl rfl rfl rfl) (ZbY (emb := postD) 7 20 ([] ++ l) rfl rfl rfl rfl rfl rfl rfl (goAs rfl rfl ?_))))))));skip;refine Zac (Zao ?_);exact ⟨_,[],[],Zak rfl,rfl,rfl,rfl,rfl⟩
theorem cloneY_p (l : List Pay) (hl : l.length ≤ 1000000) : PCalls Tryz.prog 107 [.d (.sl none (l.map payD))] (.sl none (l.map payD)) := by
  refine ZaB Tryz.func107 rfl rfl Tryz.ntmps107 rfl rfl rfl fun F hF => (Zad ?_);refine Zab (goAs rfl rfl (o_anyNil 2 rfl (Zac (Zad (Zad (Zab (goMv rfl rfl (o_nilSplit 3 rfl (fun h0 => ?_) ?_))))))))
  · refine Zaa.go (st_eqlN Tryz.underlying89 rfl rfl) (Zac (ZaU rfl (rfl) (Zad (Zab (goAs rfl rfl (o_anyNil 2 rfl (Zac (Zao ?_))))))));exact ⟨_,[],[],Zak rfl,rfl,rfl,by first | (rw [h0]; done) | (rw [h0]),rfl⟩
  · refine Zaa.go (st_eqlN Tryz.underlying89 rfl rfl) (Zac ?_);refine Za9 rfl (rfl) (Zap (Zad (Zab (Zaj.go (ZaD 20 sl89 rfl rfl rfl rfl rfl rfl rfl rfl) (goMv rfl rfl (Zaj.go (Zbj (([] : List Pay)) (l) rfl rfl rfl rfl rfl rfl (fun _ => rfl) sl89 (by simp only [List.length_nil]; omega) rfl rfl rfl rfl) (ZbY (emb := payD) 7 20 ([] ++ l) rfl rfl rfl rfl rfl rfl rfl (goAs rfl rfl ?_))))))));skip;refine Zac (Zao ?_);exact ⟨_,[],[],Zak rfl,rfl,rfl,rfl,rfl⟩
theorem cloneI_p (l : List Int) (hl : l.length ≤ 1000000) : PCalls Tryz.prog 108 [.d (.sl none (l.map intD))] (.sl none (l.map intD)) := by
  refine ZaB Tryz.func108 rfl rfl Tryz.ntmps108 rfl rfl rfl fun F hF => (Zad ?_);refine Zab (goAs rfl rfl (o_anyNil 2 rfl (Zac (Zad (Zad (Zab (goMv rfl rfl (o_nilSplit 3 rfl (fun h0 => ?_) ?_))))))))
  · refine Zaa.go (st_eqlN Tryz.underlying28 rfl rfl) (Zac (ZaU rfl (rfl) (Zad (Zab (goAs rfl rfl (o_anyNil 2 rfl (Zac (Zao ?_))))))));exact ⟨_,[],[],Zak rfl,rfl,rfl,by first | (rw [h0]; done) | (rw [h0]),rfl⟩
  · refine Zaa.go (st_eqlN Tryz.underlying28 rfl rfl) (Zac ?_);refine Za9 rfl (rfl) (Zap (Zad (Zab (Zaj.go (ZaD 20 sl28 rfl rfl rfl rfl rfl rfl rfl rfl) (goMv rfl rfl (Zaj.go (Zbj (([] : List Int)) (l) rfl rfl rfl rfl rfl rfl (fun _ => rfl) sl28 (by simp only [List.length_nil]; omega) rfl rfl rfl rfl) (ZbY (emb := intD) 7 20 ([] ++ l) rfl rfl rfl rfl rfl rfl rfl (goAs rfl rfl ?_))))))));skip;refine Zac (Zao ?_);exact ⟨_,[],[],Zak rfl,rfl,rfl,rfl,rfl⟩
theorem clone_p (i : Itm) (g1 : i.po.length ≤ 1000000) (g2 : i.pa.length ≤ 1000000) (g3 : i.af.length ≤ 1000000) : PCalls Tryz.prog 89 [.d (itmD i)] (itmD i) := by
  refine ZaB Tryz.func89 rfl rfl Tryz.ntmps89 rfl rfl rfl fun F hF => (Zad (Zab (Zaj.go (ZaS 1 rfl rfl rfl rfl rfl rfl rfl) (Zaj.go (ZaQ 2 zl91 rfl rfl rfl rfl) ?_))));refine Zac (Zad (ZaT [[],[0],[0,1],[],[3],[0,1,2,3,4],[],[6],[0,1,2,3,4,5,6,7],[0,1,2,3,4,6,7],[0,1,2,3,4,5,6,7,8,9],[0,1,2,3,4,5,6,7,8,9,10],[0,1,2,3,4,5,6,7,8,9,10,11],[0,1,2,3,4,5,6,7,8,9,10,11,12],[0,1,2,3,4,5,6,7,8,9,10,11,12,13]] mixed rfl (dws (Zaf [1] [] rfl rfl (fun _ => Zae (Zag rfl fi91_3 rfl rfl rfl)) (Zaf [3] [1] rfl rfl (fun _ => Zae (Zah rfl rfl rfl on88 rfl)) (Zaf [4] [] rfl rfl (fun _ => Zae (Zau (cloneP_p i.po g1) rfl rfl)) (Zaf [1] [] rfl rfl (fun _ => Zae (Zag rfl fi91_4 rfl rfl rfl)) (Zaf [6] [1] rfl rfl (fun _ => Zae (Zah rfl rfl rfl on89 rfl)) ?_))))))));refine Zaf [7] [] rfl rfl (fun _ => Zae (Zau (cloneY_p i.pa g2) rfl rfl)) (Zaf [1] [] rfl rfl (fun _ => Zae (Zag rfl fi91_5 rfl rfl rfl)) (Zaf [9] [1] rfl rfl (fun _ => Zae (Zah rfl rfl rfl on28 rfl)) (Zaf [10] [] rfl rfl (fun _ => Zae (Zau (cloneI_p i.af g3) rfl rfl)) (Zaf [1] [] rfl rfl (fun _ => Zae (Zag rfl fi91_3 rfl rfl rfl)) (dwc 10 rfl rfl rfl (dw1 11 rfl rfl (Zaj.go (Zaz rfl rfl rfl rfl rfl rfl rfl sz88) (Zac ⟨rfl, ?_⟩))))))));refine dw1 12 rfl rfl (Zaa.go (Zag rfl fi91_4 rfl rfl rfl) (Zac ⟨rfl, ?_⟩));refine dw1 13 rfl rfl (Zaj.go (Zaz rfl rfl rfl rfl rfl rfl rfl sz89) (Zac ⟨rfl, ?_⟩));refine dw1 14 rfl rfl (Zaa.go (Zag rfl fi91_5 rfl rfl rfl) (Zac ⟨rfl, ?_⟩));refine dw1 15 rfl rfl (Zaj.go (Zaz rfl rfl rfl rfl rfl rfl rfl sz28) (Zac ⟨rfl, ?_⟩));refine dwe (Zad (Zab (Zaa.go (Zas rfl rfl rw91 rfl rfl rfl) (Zaj.go (Zaz rfl rfl rfl rfl rfl rfl rfl sz91) (Zac (Zao ?_))))));exact ⟨_,[],[],Zak rfl,rfl,rfl,rfl,rfl⟩
theorem hnewN {hp : Hp} {f : Nat} {o : AObj} (h : hfam hp f = none) (hm : notM o = true := by rfl) : hnew? hp f o = some ((f,[o]) :: hp) := by simp only [hnew?,h,hm]
theorem partN {hp : Hp} {f : Nat} {x : List AObj} : ∀ {nm : List Nat},memB f nm = false → part? ((f,x) :: hp) nm = part? hp nm
  | [],_ => rfl
  | g :: r,h => by
    have h1 : Nat.beq f g = false := by
      cases hb : Nat.beq f g with
      | false => rfl
      | true =>
        have e := Nat.eq_of_beq_eq_true hb;subst e
        simp [memB] at h
    have h2 : memB f r = false := by
      cases hb : memB f r with
      | false => rfl
      | true => simp [memB,hb] at h
    simp only [part?];rw [partN h2];simp only [hfam,h1]
theorem subB_refl (l : List Nat) : subB l l = true := by
  have key : ∀ (l m : List Nat),(∀ x ∈ l,x ∈ m) → subB l m = true := fun l => by
    induction l with
    | nil => intro m _; rfl
    | cons a r ih => intro m h; simp only [subB,Bool.and_eq_true]; exact ⟨ZaW.2 (h a (by simp)),ih m fun x hx => h x (by simp [hx])⟩
  exact key l l fun x hx => hx
theorem feed_cons' {α β : Type} {step : β → α → β × Bool} {b : β} {x : α} {r : List α} : feed step b (x :: r) = if (step b x).2 = true then feed step (step b x).1 r else (step b x).1 := by
  simp only [feed]
  generalize step b x = y
  obtain ⟨y1,y2⟩ := y
  cases y2 <;> rfl
def encI (x : Itm) : List AV := [.d (itmD x)]
section
variable {β : Type}
theorem seqV_c (its : List Itm) (hits : its.length ≤ 1000000) (l : Nat) (H : β → Hp) (N : List Nat) (step : β → Itm → β × Bool) (st0 : β) (hN : ∀ st,hpN (H st) = N) (hI : ∀ st,hpIn N (H st) = true) (hP : ∀ st,part? (H st) N = some (H st))
    (hk : ∀ st,killH? 990 (H st) = some (H st)) (hz : ∀ st,hfam (H st) 990 = none) (hm : memB 990 N = false)
    (hfe : Feeds Tryz.prog l encI H step st0 its) :
    ACalls Tryz.prog 132 [.d (.raw (yieldV l)), .d (.ptr (.sl none (its.map itmD)))] (H st0) fun r H' => r = .tup [] ∧ H' = H (feed step st0 its) := by
  refine ZaB Tryz.func132 rfl rfl Tryz.ntmps132 rfl rfl rfl fun F hF => (Zad (Zab (Zaa.go (ZaE rfl rfl on33 rfl) (Zaa.go (ZaA rfl Tryz.underlying33 rfl) (goMv rfl rfl (Zac (Zam (a_loop (α := Nat × β) (fun p => ⟨16,[(0, .d (.raw (yieldV l))),(5,(.d (.sl none (its.map itmD)))),(6,(.d (intD (its.length : Int)))),(7,(.d (intD (p.1 : Int))))],H p.2⟩) (fun p => p.1 ≤ its.length ∧ Feeds Tryz.prog l encI H step p.2 (its.drop p.1) ∧ feed step p.2 (its.drop p.1) = feed step st0 its) (fun p => its.length - p.1) ((0,st0)) (⟨Nat.zero_le _,hfe,rfl⟩) (le_of_has ⟨rfl,rfl,rfl,rfl,trivial⟩) ?_))))))));rintro ⟨k,st⟩ ⟨hk0,hfd,hfin⟩;dsimp only at hk0 hfd hfin ⊢;refine Zad (Zab (Zaa.go (ZaI rfl rfl rfl) (Zac (Zad (ZaF rfl (fun h8 => ?_) (fun h8 => ?_))))))
  · have hk1 : k < its.length := ZaN h8;refine Zap (Zad (Zam (Zad (Zab ?_))));have hA : its.drop k = its[k] :: its.drop (k + 1) := List.drop_eq_getElem_cons hk1;rw [hA] at hfd;refine Zaa.go (Zat (k) rfl rfl (rfl) (getm hk1) Tryz.underlying33 rfl sz91 rfl) (Zaa.go (ZaC rfl rfl rw91 rfl) (Zaj.go (ZaQ 990 zl91 rfl (hk _) (hnewN (hz _)) rfl) (Zaj.go (Zaz rfl rfl rfl rfl rfl rfl rfl sz91) (Zac (Zad ?_)))));refine Zab (goMv rfl rfl (Zaa.go (Zas rfl rfl rw91 rfl rfl rfl) (o_keep [0,5,6,7,11,12] rfl (o_only N (hF.trans (hN st0)) (subB_refl N) ((partN hm).trans (hP _)) (o_yieldW hfd.1 rfl rfl (by rw [hN,hN]) (by rw [hN]; exact hI _) rfl rfl (Zaa.go (st_not rfl rfl) (Zac (Zbm rfl (fun h14 => ?_) (fun h14 => ?_)))))))))
    · have hgo : (step st its[k]).2 = false := by simpa using h14
      refine Zao ?_;exact ⟨_,N,_,Zak rfl,hP _,by rw [← hN st0]; exact namesIn_all _,rfl,by rw [← hfin,hA,feed_cons',if_neg (by rw [hgo]; decide)]⟩
    · have hgo : (step st its[k]).2 = true := by simpa using h14
      refine Zap (Zab (Zaa.go (Zay rfl rfl (wrapS (k + 1) (by omega)) rfl) (goMv rfl rfl (Zac ?_))));exact ⟨(k + 1,(step st its[k]).1),⟨by show k + 1 ≤ _; omega,hfd.2 hgo,by rw [← hfin,hA,feed_cons',if_pos hgo]⟩,by show its.length - (k + 1) < its.length - k; omega,⟨rfl,rfl,fun _ _ => Has.get (l := [(0,_),(5,_),(6,_),(7,_)]) ⟨rfl,rfl,rfl,rfl,trivial⟩⟩⟩
  · refine ZaL ?_;exact ⟨_,N,_,Zak rfl,hP _,by rw [← hN st0]; exact namesIn_all _,rfl,by rw [← hfin,List.drop_of_length_le (by have h := h8; omega)]; rfl⟩
end
theorem SR.freezeB {F : Fr} {s : AS} {ρ : Nat → Nat → Value} {act : Act} {w : World} (h : SR F s ρ act w) (t f : Nat) (x : D) {T : TypeId} {cs : List AV} {hp' : Hp} (nm : List Nat) {pn : List Nat} (hF : F.pn = pn) (ht : get s.env t = some (.ptr f 0 0)) (hone : hfam s.hp f = some [.blk T cs]) (hcs : cs = x.cells.map .d) (hx1 : ∀ c ∈ x.cells,c.one = true) (hf : memB f nm = false) (hsub : subB pn nm = true) (hpt : part? s.hp nm = some hp') : SR F ⟨s.n,(t, .d (.ptr x)) :: s.env,hp'⟩ ρ act w := by
  have h1 := h.only nm hF hsub hpt;refine ⟨h1.size,h1.defs,fun t' a ha => ?_,h1.heap⟩;rcases Zbd ha with ⟨rfl,rfl⟩ | ⟨_,ha⟩
  · have hr := h.env t _ ht;have ho : hget s.hp f 0 = some (.blk T cs) := by simp [hget,hone,gl,isM]
    obtain ⟨b,us,e1,e2,e3,e4,e5⟩ := h.heap.sim f 0 _ ho;show RepA _ _ _ _ (act.tmps.getD t undef)
    generalize act.tmps.getD t undef = v at hr
    cases hr with
    | @ptr _ _ _ b' hb =>
      rw [e1] at hb; injection hb with hb; injection hb with hb; injection hb with hb; subst hb
      have hO : ∀ b',F.O ρ hp' b' → F.O ρ s.hp b' := fun b' hb' => hb'.imp id fun ⟨f',i',o',q1,q2⟩ => by
        obtain ⟨m1,_⟩ := part?_mem hpt;refine ⟨f',i',o', ?_,q2⟩;simp only [hget] at q1 ⊢
        cases hh : hfam hp' f' with
        | none => rw [hh] at q1; cases q1
        | some l => rw [(m1 f' l hh).2]; rw [hh] at q1; exact q1
      have hnO : ¬ F.O ρ hp' b := fun hb' => by
        rcases hb' with hb' | ⟨f',i',o',q1,q2⟩
        · exact h.heap.notOf ⟨f,0,_,ho,by rw [e1]; rfl⟩ hb'
        · obtain ⟨m1,_⟩ := part?_mem hpt;simp only [hget] at q1
          cases hh : hfam hp' f' with
          | none => rw [hh] at q1; cases q1
          | some l =>
            have q3 : hget s.hp f' i' = some o' := by simp only [hget]; rw [(m1 f' l hh).2]; rw [hh] at q1; exact q1
            obtain ⟨e1',_⟩ := h.heap.inj f' i' f 0 _ _ b q3 ho q2 (by rw [e1]; rfl);have := ZaW.2 (m1 f' l hh).1;rw [e1',hf] at this; cases this
      have hlen : us.length = x.cells.length := by rw [e3,hcs,List.length_map]
      refine .d (.ptr (fun j => us.getD j undef) (h.heap.ltO (.inr ⟨f,0,_,ho,by rw [e1]; rfl⟩)) hnO hx1 (fun j c hj => ?_) (fun j c hj => ?_))
      · have hj' : j < us.length := by rw [hlen]; exact (List.getElem?_eq_some_iff.1 hj).1
        rw [Nat.zero_add,cell_of_row w b j us.toArray T (0,0) e2]
        simp [hj']
      · have hj' : j < us.length := by rw [hlen]; exact (List.getElem?_eq_some_iff.1 hj).1
        have hc := e4 j (.d c) us[j] (by rw [hcs,List.getElem?_map,hj]; rfl) (List.getElem?_eq_getElem hj');have hg : us.getD j undef = us[j] := by simp [hj']
        rw [hg]
        cases hc with
        | d hc => exact hc.mono (Nat.le_refl _) (fun _ _ _ => rfl) fun b' _ => hO b'
  · exact h1.env t' a ha
theorem o_freezeB {P : Program} {F : Fr} {Q : Exit → AS → Prop} {ops : Array Oper} {l' : List Oper} {sn : Nat} {env : List (Nat × AV)} {hp hp' : Hp} (t f : Nat) (x : D) {T : TypeId} {cs : List AV} (nm : List Nat) {pn : List Nat} (hF : F.pn = pn) (ht : get env t = some (.ptr f 0 0)) (hone : hfam hp f = some [.blk T cs]) (hcs : cs = x.cells.map .d) (hx1 : ∀ c ∈ x.cells,c.one = true) (hf : memB f nm = false) (hsub : subB pn nm = true) (hpt : part? hp nm = some hp')
    (h : Aops P F ops l' Q ⟨sn,(t, .d (.ptr x)) :: env,hp'⟩) : Aops P F ops l' Q ⟨sn,env,hp⟩ := fun ρ act w hs => h ρ act w (hs.freezeB t f x nm hF ht hone hcs hx1 hf hsub hpt)
theorem values_c (its : List Itm) : ACalls Tryz.prog 104 [.d (.sl none (its.map itmD))] [] fun r H' => r = .fn 132 [.d (.ptr (.sl none (its.map itmD)))] ∧ H' = [] := by
  refine ZaB Tryz.func104 rfl rfl Tryz.ntmps104 rfl rfl rfl fun F hF => (Zad (Zab (Zaj.go (ZaS 1 rfl rfl rfl rfl rfl rfl rfl) ?_)));refine goAs rfl rfl (Zac (Zad (Zab (o_freezeB 1 1 (.sl none (its.map itmD)) [] hF rfl rfl rfl (by intro c hc; simp [D.cells] at hc; subst hc; rfl) rfl rfl rfl (Zaa.go (st_makeFunc rfl rfl) (goAs rfl rfl (Zac (Zao ?_))))))));exact ⟨_,[],[],Zak rfl,rfl,rfl,rfl,rfl⟩
abbrev hV (q : List Itm) : Hp := [(920,[.rowD 91 6 (q.map itmD)]),(1,[.blk 33 [.own 920 0 q.length]])]
def stepI (q : List Itm) (x : Itm) : List Itm × Bool := (q ++ [x],true)
theorem feed_app : ∀ (l q : List Itm),feed stepI q l = q ++ l
  | [],q => by simp [feed]
  | x :: l,q => by rw [feed_cons']; show (if true = true then feed stepI (q ++ [x]) l else _) = _; rw [if_pos rfl,feed_app l]; simp
theorem feeds_app {P : Program} {l : Nat} {H : List Itm → Hp} {n : Nat} (hY : ∀ q x,q.length < n → YCalls P l (encI x) (H q) fun v H' => v = .d (.raw (.bool true)) ∧ H' = H (q ++ [x])) : ∀ (xs q : List Itm),q.length + xs.length ≤ n → Feeds P l encI H stepI q xs
  | [],_,_ => trivial
  | x :: xs,q,h => ⟨hY q x (by simp at h; omega),fun _ => feeds_app hY xs (q ++ [x]) (by simp at h ⊢; omega)⟩
theorem appseq_c (its : List Itm) (hits : its.length ≤ 1000000) : ACalls Tryz.prog 147 [.d (.sl (some true) []), .fn 132 [.d (.ptr (.sl none (its.map itmD)))]] [] fun r H' => r = .own 920 0 its.length ∧ H' = [(920,[.rowD 91 6 (its.map itmD)])] := by
  refine a_enterR Tryz.func147 rfl rfl Tryz.ntmps147 rfl rfl rfl fun F hF hFl => (Zad (Zab (Zaj.go (ZaS 1 rfl rfl rfl rfl rfl rfl rfl) ?_)));refine goAs rfl rfl (Zac (Zad (Zad (a_adoptC 1 0 0 920 sl33 rfl rfl rfl rfl rfl rfl rfl (Zab (goMv rfl rfl (Zac (Zam ?_))))))));refine a_keep [2,6] rfl ?_;refine a_range (γ := Unit) hFl 900 rfl rfl rfl rfl rfl [1,920] (CHr := hV []) (fun _ => True) (fun _ => hV its) (fun _ => .ready) (fun _ => none) ⟨rfl,rfl,trivial⟩ rfl rfl rfl (fun _ => rfl) (fun _ => rfl) rfl (fun _ _ => by simp) (fun _ _ => ⟨rfl,rfl⟩) [920,1] hF rfl rfl (fun _ _ => rfl) (fun l A B hA hB => ?_) (fun _ _ => ?_)
  · refine (seqV_c its hits l (fun q : List Itm => (900,[.loop ⟨l,13,[(2, .ptr 1 0 0),(6, .fn 132 [.d (.ptr (.sl none (its.map itmD)))])], .ready,none, #[7],A,B⟩]) :: hV q) [900,920,1] stepI [] (fun _ => rfl) (fun _ => rfl) (fun _ => rfl) (fun _ => rfl) (fun _ => rfl) rfl ?_).mono (fun r H' ⟨e1,e2⟩ => ⟨e1,(),trivial,by rw [e2,feed_app]; rfl⟩);refine feeds_app (n := its.length) (fun q x hq => ?_) its [] (by simp);refine yc_round (lf := 900) rfl rfl rfl rfl fun F hF hr => ?_;show Awp _ _ A _ _;rw [hA];refine Zab (Zaj.go (ZaQ 2 zl91 rfl rfl rfl rfl) (Zaj.go (Zaz rfl rfl rfl rfl rfl rfl rfl sz91) (Zac (⟨rfl,_,_,rfl,rfl,rfl,rfl, ?_⟩))));show Awp _ _ B _ _;rw [hB];refine Zam (Zab (Zaa.go (Zah rfl rfl rfl on33 rfl) (Zaa.go (Zas rfl rfl rw91 rfl rfl rfl) (Zaj.go (ZaD 30 sl33 rfl rfl rfl rfl rfl rfl rfl rfl) (Zaj.go (Zbc (q) ([x]) rfl rfl rfl rfl rfl rfl rfl rfl sl33 (by simp only [List.length_singleton]; omega) rfl rfl rfl rfl) (Zaj.go (Zaz rfl rfl rfl rfl rfl rfl rfl sz33) (Zac ?_)))))));exact ⟨none,_,_,[900,920,1],_,rfl,rfl,rfl,rfl,rfl,rfl,rfl,rfl⟩
  · refine Zad (Zab (Zaa.go (Zah rfl rfl rfl on33 rfl) (goAs rfl rfl (Zac (Zao ?_)))));exact ⟨_,[920],_,Zak rfl,rfl,rfl,rfl,rfl⟩
theorem insO_perm (l : List Itm) (x : Itm) : (insO l x).Perm (x :: l) := by
  induction l with
  | nil => exact List.Perm.refl _
  | cons a l ih =>
    simp only [insO]; split
    · exact List.Perm.refl _
    · exact (List.Perm.cons a ih).trans (List.Perm.swap x a l)
theorem insO_sorted {l : List Itm} (h : l.Pairwise fun a b => ¬ ordI b a < 0) (x : Itm) : (insO l x).Pairwise fun a b => ¬ ordI b a < 0 := by
  induction l with
  | nil => simp [insO]
  | cons a l ih =>
    rw [List.pairwise_cons] at h;simp only [insO]
    split
    · rename_i hall
      exact List.pairwise_cons.2 ⟨fun y hy => by have h1 := hall y hy; have h2 := ordI_pc.anti x y; omega,List.pairwise_cons.2 h⟩
    · rename_i hn
      refine List.pairwise_cons.2 ⟨fun y hy => ?_,ih h.2⟩;rcases List.mem_cons.1 ((insO_perm l x).mem_iff.1 hy) with rfl | hy
      · intro hlt;refine hn fun z hz => ?_;rcases List.mem_cons.1 hz with rfl | hz
        · exact hlt
        · have h1 := h.1 z hz;have h2 := ordI_pc.anti a z
          by_cases e : ordI a z = 0
          · have h3 := ordI_pc.eqv a z y e;have h4 := ordI_pc.anti a y; have h5 := ordI_pc.anti z y; omega
          · exact ordI_pc.trans _ _ _ hlt (by omega)
      · exact h.1 y hy
theorem Zbe (l : List Itm) : (sortO l).Perm l := by
  induction l using ZbZ with
  | h0 => exact List.Perm.refl _
  | h1 l x ih =>
    rw [sortO_snoc];exact (insO_perm _ x).trans ((List.Perm.cons x ih).trans (List.perm_append_comm (l₁ := [x]) (l₂ := l)))
theorem sortO_sorted (l : List Itm) : (sortO l).Pairwise fun a b => ¬ ordI b a < 0 := by
  induction l using ZbZ with
  | h0 => exact List.Pairwise.nil
  | h1 l x ih => rw [sortO_snoc]; exact insO_sorted ih x
theorem ordI_zero {a b : Itm} (h : ordI a b = 0) : a.sq = b.sq := by
  unfold ordI at h;simp only [fst0] at h
  split at h
  · split at h
    · rename_i h2; exact cmpI_zero.1 h2
    · contradiction
  · contradiction
theorem strict_of {l : List Itm} (hn : (l.map Itm.sq).Nodup) (h : l.Pairwise fun a b => ¬ ordI b a < 0) : l.Pairwise fun a b => ordI a b < 0 := by
  rw [List.Nodup,List.pairwise_map] at hn;refine (h.and hn).imp fun {a b} ⟨g1,g2⟩ => ?_;have h1 := ordI_pc.anti a b;have h2 : ordI a b ≠ 0 := fun e => g2 (ordI_zero e);omega
theorem ord_one {its ys : List Itm} (hn : (its.map Itm.sq).Nodup) (h1 : ys.Perm its) (h2 : ys.Pairwise fun a b => ¬ ordI b a < 0) : ys = sortO its :=
  strict_one (R := fun a b => ordI a b < 0) (fun x => by rw [ordI_pc.refl]; omega) (fun x y z => ordI_pc.trans x y z) (strict_of ((h1.map _).nodup_iff.2 hn) h2) (strict_of (((Zbe its).map _).nodup_iff.2 hn) (sortO_sorted its)) fun x => by rw [h1.mem_iff,(Zbe its).mem_iff]
theorem itmD_agg (x : Itm) : ∃ cs,itmD x = .agg cs := ⟨_,rfl⟩
abbrev seqA (its : List Itm) : AV := .fn 132 [.d (.ptr (.sl none (its.map itmD)))]
theorem collect_c (its : List Itm) (hits : its.length ≤ 1000000) : ACalls Tryz.prog 130 [seqA its] [] fun r H' => r = .own 920 0 its.length ∧ H' = [(920,[.rowD 91 6 (its.map itmD)])] := by
  refine ZaB Tryz.func130 rfl rfl Tryz.ntmps130 rfl rfl rfl fun F hF => (Zad (Zab ?_));refine goAs rfl rfl (Zac (Zad (Zab (goMv rfl rfl (Zaj.go (Zbh (appseq_c its hits) rfl [920] ⟨rfl,trivial⟩ rfl rfl rfl rfl rfl rfl rfl rfl rfl) (goAs rfl rfl (Zac (Zao ?_))))))));exact ⟨_,[920],_,Zak rfl,rfl,rfl,rfl,rfl⟩
theorem sortedF_p (its : List Itm) (hits : its.length ≤ 1000000) (hn : (its.map Itm.sq).Nodup) : PCalls Tryz.prog 103 [seqA its, .d (.raw (.func (.func 105) #[] #[]))] (.sl none ((sortO its).map itmD)) := by
  refine ZaB Tryz.func103 rfl rfl Tryz.ntmps103 rfl rfl rfl fun F hF => (Zad (Zab (goAs rfl rfl (Zac (Zad ?_)))));refine Zab (goMv rfl rfl (Zaj.go (Zbh (collect_c its hits) rfl [920] ⟨rfl,trivial⟩ rfl rfl rfl rfl rfl rfl rfl rfl rfl) (goAs rfl rfl (Zac (Zad (Zab (goMv rfl rfl (goMv rfl rfl ?_))))))));refine Zaj.go (st_sort laysI (k := 6) (by decide) Tryz.isAgg91 Tryz.sizeOf91 Tryz.func105 rfl rfl itmD_agg ordI ordI_pc.swo its (sortO its) (by omega) (fun x _ y _ => order_p x y) (fun ys g1 g2 => ord_one hn g1 g2) rfl rfl rfl fa_raw rfl rfl rfl rfl rfl) (Zac (Zad (ZbH (emb := itmD) 5 920 (sortO its) rfl rfl rfl (ZbP its).symm rfl rfl rfl (Zab (goMv rfl rfl (goAs rfl rfl (Zac (Zao ?_))))))));exact ⟨_,[],[],Zak rfl,rfl,rfl,rfl,rfl⟩
theorem items_nodup {l : List Itm} (h : itemsE l = 0) : (l.map Itm.sq).Nodup := by
  have h0 := ZbL.1 h;rw [List.Nodup,List.pairwise_map,List.pairwise_iff_getElem];intro i j hi hj hij e;have := h0 j (List.mem_range.2 hj);unfold iErr at this;rw [ZaH itm0 hj] at this
  split at this
  · contradiction
  · split at this
    · cases this
    · rename_i hn
      exact hn (.inr (mem_tk hj hij e))
theorem ZbO {p : Prb} (h : prbE p = 0) : roomsE p.ro = 0 ∧ itemsE p.it = 0 ∧ afterE p.it = 0 := by
  unfold prbE at h
  split at h; · cases h
  have h3 := fst0_all h;exact ⟨h3 _ (by simp),h3 _ (by simp),h3 _ (by simp)⟩
def ordP (p : Prb) : List Itm := if prbE p = 0 then sortO p.it else []
theorem psorted_p (p : Prb) (hb : PrbB p) : PCalls Tryz.prog 88 [.d (prbD p)] (.sl none ((ordP p).map itmD)) := by
  have hck := pcheck_p p hb;obtain ⟨_,g2,_⟩ := hb
  by_cases hE : prbE p = 0
  · rw [hE] at hck;have hR : ordP p = sortO p.it := if_pos hE;rw [hR];refine ZaB Tryz.func88 rfl rfl Tryz.ntmps88 rfl rfl rfl fun F hF => (Zad (Zab (Zaj.go (ZaS 1 rfl rfl rfl rfl rfl rfl rfl) (goAs rfl rfl (Zac ?_)))));refine Zad (Zad (Zab (Zaa.go (Zas rfl rfl rw35 rfl rfl rfl) (Zaa.go (Zau (hck) rfl rfl) (Zaa.go (Zbi rfl rfl rfl) (Zac (Za9 rfl ((by decide)) (Zap ?_))))))));refine Zad (Zab (Zaa.go (Zag rfl fi35_1 rfl rfl rfl) (Zaa.go (Zah rfl rfl rfl on33 rfl) (Zaj.go (Zbh (values_c p.it) rfl [] trivial rfl rfl rfl rfl rfl rfl rfl rfl rfl) (Zaa.go (Zau (sortedF_p p.it (by omega) (items_nodup (ZbO hE).2.1)) rfl rfl) (goAs rfl rfl (Zac (Zao ?_))))))));exact ⟨_,[],[],Zak rfl,rfl,rfl,rfl,rfl⟩
  · have hR : ordP p = [] := if_neg hE;rw [hR];refine ZaB Tryz.func88 rfl rfl Tryz.ntmps88 rfl rfl rfl fun F hF => (Zad (Zab ?_));refine Zaj.go (ZaS 1 rfl rfl rfl rfl rfl rfl rfl) (goAs rfl rfl (o_anyNil 2 rfl (Zac (Zad (Zad (Zab (Zaa.go (Zas rfl rfl rw35 rfl rfl rfl) (Zaa.go (Zau (hck) rfl rfl) ?_))))))));refine Zaa.go (Zbi rfl rfl rfl) (Zac (ZaU rfl ((by simpa using hE)) (Zad (Zab (goAs rfl rfl (o_anyNil 2 rfl (Zac (Zao ?_))))))));exact ⟨_,[],[],Zak rfl,rfl,rfl,rfl,rfl⟩
theorem ordP_len (p : Prb) : (ordP p).length ≤ p.it.length := by unfold ordP; split <;> simp [ZbP]
theorem ordP_mem {p : Prb} {i : Itm} (h : i ∈ ordP p) : i ∈ p.it := by
  unfold ordP at h; split at h
  · exact (Zbe _).mem_iff.1 h
  · cases h
theorem order_ids_p (p : Prb) (hb : PrbB p) : PCalls Tryz.prog 75 [.d (prbD p)] (.sl none (((ordP p).map Itm.id).map intD)) := by
  have hso := psorted_p p hb;have hlen := ordP_len p;have hb2 := hb.2.1
  obtain ⟨S,hS⟩ : ∃ S,ordP p = S := ⟨_,rfl⟩
  rw [hS] at hso hlen ⊢;refine ZaB Tryz.func75 rfl rfl Tryz.ntmps75 rfl rfl rfl fun F hF => (Zad (Zab (Zaj.go (ZaS 1 rfl rfl rfl rfl rfl rfl rfl) (goAs rfl rfl ?_))));refine Zac (Zad (Zab (goAs rfl rfl (Zac (Zad (Zad (a_adopt 3 900 sl28 rfl rfl rfl rfl (Zab ?_))))))))
  first | refine Zaa.go (ZaC rfl rfl rw35 rfl) ?_ | refine Zaa.go (Zas rfl rfl rw35 rfl rfl rfl) ?_ | refine Zaa.go (Zba rfl rfl (rfl) rfl rw35 rfl) ?_
  refine Zaa.go (Zau (hso) rfl rfl) ?_
  first | refine Zaa.go (ZaA rfl Tryz.underlying33 rfl) ?_ | refine Zaa.go (st_lenD rfl rfl Tryz.underlying33 rfl) ?_ | refine Zaa.go (st_lenO rfl Tryz.underlying33 rfl) ?_ | refine Zaa.go (st_lenSL rfl Tryz.underlying33 rfl) ?_ | refine Zaa.go (st_lenN rfl Tryz.underlying33 rfl) ?_ | refine Zaa.go (st_lenS rfl Tryz.underlying33 rfl) ?_
  refine goMv rfl rfl (Zac (Zam (ZaK (α := Nat × List Int) (fun q => ⟨20,[(3,(.own 900 0 q.2.length)),(7,(.d (.sl none (S.map itmD)))),(8,(.d (intD (S.length : Int)))),(9,(.d (intD (q.1 : Int))))],[(900,[.rowD 3 1 (q.2.map intD)])]⟩) (fun q => q.1 ≤ S.length ∧ q.2 = (S.take q.1).map Itm.id) (fun q => S.length - q.1) ((0,[])) (⟨Nat.zero_le _,rfl⟩) (Zaq hF [900] rfl rfl ⟨rfl,rfl,rfl,rfl,trivial⟩) ?_)));rintro ⟨k,acc⟩ ⟨hk0,hA⟩;dsimp only at hk0 hA ⊢;refine Zad (Zab ?_)
  first | refine Zaa.go (ZaI rfl rfl rfl) ?_ | refine Zaa.go (st_lssS rfl rfl rfl) ?_
  refine Zac (Zad ?_)
  first | refine ZaF rfl (fun h10 => ?_) (fun h10 => ?_) | refine Zbm rfl (fun h10 => ?_) (fun h10 => ?_)
  · have hk1 : k < S.length := ZaN h10;refine Zap (Zad (Zam (Zad (Zab ?_))));have hal : acc.length ≤ 100000 := by rw [hA,List.length_map,List.length_take]; omega
    first | refine Zaa.go (Zat (k) rfl rfl (rfl) (getm hk1) Tryz.underlying33 rfl sz91 rfl) ?_ | refine Zaa.go (ZbA (k) rfl rfl (rfl) (getm hk1) rfl Tryz.underlying33 sz91 rfl) ?_
    first | refine Zaa.go (ZaC rfl rfl rw91 rfl) ?_ | refine Zaa.go (Zas rfl rfl rw91 rfl rfl rfl) ?_ | refine Zaa.go (Zba rfl rfl (rfl) rfl rw91 rfl) ?_
    refine Zaj.go (ZaQ 2 zl91 rfl rfl rfl rfl) (Zaj.go (Zaz rfl rfl rfl rfl rfl rfl rfl sz91) (Zac (Zab (goMv rfl rfl ?_))))
    first | refine Zaa.go (Zag rfl Zbz rfl rfl rfl) ?_ | refine Zaa.go (ZaJ rfl Zbz rfl rfl rfl) ?_ | refine Zaa.go (ZaM rfl Zbz rfl rfl rfl) ?_ | refine Zaa.go (Za1 rfl Zbz rfl rfl rfl) ?_ | refine Zaa.go (Zav rfl Zbz rfl rfl rfl) ?_
    first | refine Zaa.go (ZaE rfl rfl on3 rfl) ?_ | refine Zaa.go (Zah rfl rfl rfl on3 rfl) ?_ | refine Zaa.go (Zbl rfl rfl (rfl) rfl on3 rfl) ?_
    refine Zaj.go (ZaD 3 sl28 rfl rfl rfl rfl rfl rfl rfl rfl) ?_
    first | refine Zaj.go (Zbc (acc) ([S[k].id]) rfl rfl rfl rfl rfl rfl rfl rfl sl28 (by simp only [List.length_singleton]; omega) rfl rfl rfl rfl) ?_ | refine Zaj.go (Zbj (acc) ([S[k].id]) rfl rfl rfl rfl rfl rfl (fun _ => rfl) sl28 (by simp only [List.length_singleton]; omega) rfl rfl rfl rfl) ?_
    refine goAs rfl rfl (Zac (Zab (Zaa.go (Zay rfl rfl (wrapS (k + 1) (by omega)) rfl) (goMv rfl rfl (Zac ?_)))));exact ⟨(k + 1,_),⟨by show k + 1 ≤ _; omega,by show _ = (S.take (k + 1)).map Itm.id; rw [tk_map hk1, ← hA]⟩,by show S.length - (k + 1) < S.length - k; omega,Zaq hF [900] rfl (rfl) ⟨rfl,rfl,rfl,rfl,trivial⟩⟩
  · refine ZaL (Zad (ZbH (emb := intD) 3 900 acc rfl rfl rfl rfl rfl rfl rfl (Zab (goMv rfl rfl (goAs rfl rfl (Zac (Zao ?_)))))));exact ⟨_,[],[],Zak rfl,rfl,rfl,by rw [hA,List.take_of_length_le (by have h := h10; omega)],rfl⟩
def itemF (l : List Itm) (id : Int) : Itm × Bool := match l.find? fun x => decide (x.id = id) with
  | some x => (x,true)
  | none => (itm0,false)
theorem itemF_at {l : List Itm} {id : Int} {k : Nat} (hk : k < l.length) (h0 : id ∉ (l.take k).map Itm.id) (h : l[k].id = id) : itemF l id = (l[k],true) := by
  have : l.find? (fun x => decide (x.id = id)) = some l[k] := by
    rw [List.find?_eq_some_iff_getElem];refine ⟨by simp [h],k,hk,rfl,fun j hj => ?_⟩;simp only [Bool.not_eq_true',decide_eq_false_iff_not];intro e;exact h0 (mem_tk hk hj e)
  unfold itemF; rw [this]
theorem itemF_no {l : List Itm} {id : Int} (h : id ∉ l.map Itm.id) : itemF l id = (itm0,false) := by
  have : l.find? (fun x => decide (x.id = id)) = none := by
    rw [List.find?_eq_none];intro x hx e;exact h (List.mem_map.2 ⟨x,hx,by simpa using e⟩)
  unfold itemF; rw [this]
theorem itm0_weak : ∀ w O v,RepD w O (.agg [intD 0,intD 0,intD 0, .sl (some true) [], .sl (some true) [], .sl (some true) []]) v → RepD w O (itmD itm0) v := fun w O v h => h.aggMono rfl (by simp [D.one]) fun i c c' hc hc' v hv => by
  match i,hc,hc' with
  | 0,hc,hc' => injection hc with hc; injection hc' with hc'; subst hc hc'; exact hv
  | 1,hc,hc' => injection hc with hc; injection hc' with hc'; subst hc hc'; exact hv
  | 2,hc,hc' => injection hc with hc; injection hc' with hc'; subst hc hc'; exact hv
  | 3,hc,hc' => injection hc with hc; injection hc' with hc'; subst hc hc'; exact hv.anyNil
  | 4,hc,hc' => injection hc with hc; injection hc' with hc'; subst hc hc'; exact hv.anyNil
  | 5,hc,hc' => injection hc with hc; injection hc' with hc'; subst hc hc'; exact hv.anyNil
theorem item_p (p : Prb) (id : Int) (hb : PrbB p) : PCalls Tryz.prog 63 [.d (prbD p), .d (intD id)] (.tup [itmD (itemF (ordP p) id).1,boolD (itemF (ordP p) id).2]) := by
  have hso := psorted_p p hb;have hlen := ordP_len p;have hb2 := hb.2.1;have hmem : ∀ i ∈ ordP p,i.po.length ≤ 100000 ∧ i.pa.length ≤ 100000 ∧ i.af.length ≤ 100000 := fun i hi => hb.2.2 i (ordP_mem hi)
  obtain ⟨S,hS⟩ : ∃ S,ordP p = S := ⟨_,rfl⟩
  rw [hS] at hso hlen hmem ⊢;refine ZaB Tryz.func63 rfl rfl Tryz.ntmps63 rfl rfl rfl fun F hF => ?_;refine Zad (Zab (Zaj.go (ZaS 1 rfl rfl rfl rfl rfl rfl rfl) (Zaj.go (ZaQ 2 zl91 rfl rfl rfl rfl) (goAs rfl rfl (Zac (Zad (Zad (Zab ?_))))))))
  first | refine Zaa.go (ZaC rfl rfl rw35 rfl) ?_ | refine Zaa.go (Zas rfl rfl rw35 rfl rfl rfl) ?_ | refine Zaa.go (Zba rfl rfl (rfl) rfl rw35 rfl) ?_
  refine Zaa.go (Zau (hso) rfl rfl) ?_
  first | refine Zaa.go (ZaA rfl Tryz.underlying33 rfl) ?_ | refine Zaa.go (st_lenD rfl rfl Tryz.underlying33 rfl) ?_ | refine Zaa.go (st_lenO rfl Tryz.underlying33 rfl) ?_ | refine Zaa.go (st_lenSL rfl Tryz.underlying33 rfl) ?_ | refine Zaa.go (st_lenN rfl Tryz.underlying33 rfl) ?_ | refine Zaa.go (st_lenS rfl Tryz.underlying33 rfl) ?_
  refine goMv rfl rfl (Zac (Zam (ZaK (α := Nat) (fun k => ⟨23,[(1, .d (intD id)),(4,(.ptr 2 0 0)),(9,(.d (.sl none (S.map itmD)))),(10,(.d (intD (S.length : Int)))),(11,(.d (intD (k : Int))))],[(2,[.blk 91 [.d (intD 0), .d (intD 0), .d (intD 0),nilC,nilC,nilC]])]⟩) (fun k => k ≤ S.length ∧ id ∉ (S.take k).map Itm.id) (fun k => S.length - k) (0) (⟨Nat.zero_le _,by simp⟩) (Zaq hF [2] rfl rfl ⟨rfl,rfl,rfl,rfl,rfl,trivial⟩) ?_)));rintro k ⟨hk0,hk⟩;refine Zad (Zab ?_)
  first | refine Zaa.go (ZaI rfl rfl rfl) ?_ | refine Zaa.go (st_lssS rfl rfl rfl) ?_
  refine Zac (Zad ?_)
  first | refine ZaF rfl (fun h12 => ?_) (fun h12 => ?_) | refine Zbm rfl (fun h12 => ?_) (fun h12 => ?_)
  · have hk1 : k < S.length := ZaN h12;refine Zap (Zad (Zam (Zad (Zab ?_))));have hgi := hmem _ (List.getElem_mem hk1)
    first | refine Zaa.go (Zat (k) rfl rfl (rfl) (getm hk1) Tryz.underlying33 rfl sz91 rfl) ?_ | refine Zaa.go (ZbA (k) rfl rfl (rfl) (getm hk1) rfl Tryz.underlying33 sz91 rfl) ?_
    first | refine Zaa.go (ZaC rfl rfl rw91 rfl) ?_ | refine Zaa.go (Zas rfl rfl rw91 rfl rfl rfl) ?_ | refine Zaa.go (Zba rfl rfl (rfl) rfl rw91 rfl) ?_
    refine Zaj.go (ZaQ 3 zl91 rfl rfl rfl rfl) (Zaj.go (Zaz rfl rfl rfl rfl rfl rfl rfl sz91) (Zac (Zad (Zab ?_))))
    first | refine Zaa.go (Zag rfl Zbz rfl rfl rfl) ?_ | refine Zaa.go (ZaJ rfl Zbz rfl rfl rfl) ?_ | refine Zaa.go (ZaM rfl Zbz rfl rfl rfl) ?_ | refine Zaa.go (Za1 rfl Zbz rfl rfl rfl) ?_ | refine Zaa.go (Zav rfl Zbz rfl rfl rfl) ?_
    first | refine Zaa.go (ZaE rfl rfl on3 rfl) ?_ | refine Zaa.go (Zah rfl rfl rfl on3 rfl) ?_ | refine Zaa.go (Zbl rfl rfl (rfl) rfl on3 rfl) ?_
    refine goMv rfl rfl ?_
    first | refine Zaa.go (Zbn rfl rfl rfl) ?_ | refine Zaa.go (Za8 rfl rfl rfl) ?_ | refine Zaa.go (st_eqlS rfl rfl rfl) ?_ | refine Zaa.go (st_eqlB Tryz.underlying3 rfl rfl rfl) ?_ | refine Zaa.go (st_eqlP Tryz.underlying3 rfl rfl rfl) ?_ | refine Zaa.go (st_eqlN Tryz.underlying3 rfl rfl) ?_ | refine Zaa.go (st_eqlF Tryz.underlying3 rfl rfl rfl) ?_ | refine Zaa.go (st_eqlFN Tryz.underlying3 rfl rfl) ?_
    refine Zac ?_
    first | refine ZaF rfl (fun h18 => ?_) (fun h18 => ?_) | refine Zbm rfl (fun h18 => ?_) (fun h18 => ?_)
    · refine Zad (Zab ?_)
      first | refine Zaa.go (ZaC rfl rfl rw91 rfl) ?_ | refine Zaa.go (Zas rfl rfl rw91 rfl rfl rfl) ?_ | refine Zaa.go (Zba rfl rfl (rfl) rfl rw91 rfl) ?_
      refine Zaa.go (Zau (clone_p S[k] (by omega) (by omega) (by omega)) rfl rfl) (Zaj.go (Zaz rfl rfl rfl rfl rfl rfl rfl sz91) (goAs rfl rfl (Zac (Zao ?_))));exact ⟨_,[],[],Zak rfl,rfl,rfl,by rw [itemF_at hk1 hk h18],rfl⟩
    · refine Zap (Zab (Zaa.go (Zay rfl rfl (wrapS (k + 1) (by omega)) rfl) (goMv rfl rfl (Zac ?_))));exact ⟨k + 1,⟨by show k + 1 ≤ _; omega,nmem_next hk1 hk h18⟩,by show S.length - (k + 1) < S.length - k; omega,Zaq hF [2] rfl (rfl) ⟨rfl,rfl,rfl,rfl,rfl,trivial⟩⟩
  · refine ZaL (Zad (Zab (Zaa.go (Za0 zl91 pl91 rfl rfl rfl) (o_weakD 22 (itmD itm0) rfl itm0_weak (Zaj.go (Zaz rfl rfl rfl rfl rfl rfl rfl sz91) (goAs rfl rfl (Zac (Zao ?_))))))));exact ⟨_,[],[],Zak rfl,rfl,rfl,by rw [itemF_no (by rw [List.take_of_length_le (by have h := h12; omega)] at hk; exact hk)],rfl⟩
theorem ids_inj {l : List Itm} (hn : (l.map Itm.id).Nodup) {x y : Itm} (hx : x ∈ l) (hy : y ∈ l) (h : x.id = y.id) : x = y := by
  induction l with
  | nil => cases hx
  | cons a l ih =>
    rw [List.map_cons,List.nodup_cons] at hn;rcases List.mem_cons.1 hx with e1 | hx' <;> rcases List.mem_cons.1 hy with e2 | hy'
    · rw [e1,e2]
    · exact absurd (List.mem_map.2 ⟨y,hy',by rw [← h,e1]⟩) hn.1
    · exact absurd (List.mem_map.2 ⟨x,hx',by rw [h,e2]⟩) hn.1
    · exact ih hn.2 hx' hy'
theorem items_ids {l : List Itm} (h : itemsE l = 0) : (l.map Itm.id).Nodup := by
  have h0 := ZbL.1 h;rw [List.Nodup,List.pairwise_map,List.pairwise_iff_getElem];intro i j hi hj hij e;have := h0 j (List.mem_range.2 hj);unfold iErr at this;rw [ZaH itm0 hj] at this
  split at this
  · contradiction
  · split at this
    · cases this
    · rename_i hn
      exact hn (.inl (mem_tk hj hij e))
theorem ctrSum_cons (x : Rsc × Int) (l : List (Rsc × Int)) (r : Rsc) : ctrSum (x :: l) r = (if x.1 = r then x.2 else 0) + ctrSum l r := by simp [ctrSum]
theorem ctrSum_none {l : List (Rsc × Int)} {r : Rsc} (h : r ∉ l.map Prod.fst) : ctrSum l r = 0 := by
  induction l with
  | nil => rfl
  | cons x l ih =>
    rw [List.map_cons,List.mem_cons] at h;rw [ctrSum_cons,if_neg (fun e => h (.inl e.symm)),ih (fun h' => h (.inr h'))]; rfl
def totQ (l : List Itm) (r : Rsc) : Int := (l.map fun i => ctrSum (ctr i) r).sum
def inB (l : List Int) (i : Itm) : Bool := decide (i.id ∈ l)
theorem items_check {l : List Itm} (h : itemsE l = 0) : ∀ i ∈ l,checkE i = 0 := fun i hi => by
  have h0 := ZbL.1 h;obtain ⟨j,hj,rfl⟩ := List.getElem_of_mem hi;have := h0 j (List.mem_range.2 hj);unfold iErr at this;rw [ZaH itm0 hj] at this
  split at this
  · contradiction
  · rename_i hn; simpa using hn
theorem bnd_sum {i : Itm} (h : checkE i = 0) (r : Rsc) : -Mx ≤ ctrSum (ctr i) r ∧ ctrSum (ctr i) r ≤ Mx := by
  have hb := (check_ok h).2.2.2.2.2.2.2.2;unfold bndE at hb
  split at hb
  · cases hb
  · rename_i hn
    by_cases hr : r ∈ (sumL (ctr i)).map Prod.fst
    · obtain ⟨⟨r',v⟩,hx,e⟩ := List.mem_map.1 hr;have e : r' = r := e;subst e;have hv := ((sumL_mem _ _ _).1 hx).2;rw [← hv];exact Decidable.not_not.1 fun hh => hn ⟨_,hx,hh⟩
    · rw [ctrSum_none fun h' => hr ((sumL_keys _ r).2 h')]; simp only [Mx]; omega
theorem bnd_E {i : Itm} (h : checkE i = 0) : Bnd (sumL (ctr i)) := fun x hx => by
  have hv := ((sumL_mem (ctr i) x.1 x.2).1 hx).2;rw [hv]; simpa [Mx] using bnd_sum h x.1
def totR (p : Prb) (l : List Int) : List Roo := p.ro.map fun x => ⟨x.r,x.n + totQ (p.it.filter (inB l)) x.r⟩
theorem rooms_amt {l : List Roo} (h : roomsE l = 0) : ∀ x ∈ l, -4000000000000000 ≤ x.n ∧ x.n ≤ 4000000000000000 := fun x hx => by
  have h0 := ZbL.1 h;obtain ⟨j,hj,rfl⟩ := List.getElem_of_mem hx;have := h0 j (List.mem_range.2 hj);unfold rErr at this;rw [ZaH roo0 hj] at this
  split at this
  · contradiction
  · split at this
    · cases this
    · rename_i hn; simp only [Mx] at hn; omega
def inS (S : List Int) (x : Int) : Bool := decide (x ∈ S)
def kept (S l : List Int) : List Int := l.filter fun x => !inS S x
theorem kept_all {S l : List Int} (h : ∀ x ∈ l,inS S x = false) : kept S l = l := List.filter_eq_self.2 fun x hx => by rw [h x hx]; rfl
def restI (l : List Int) (i : Itm) : Itm := ⟨i.id,i.pr,i.sq,i.po,i.pa,kept l i.af⟩
def setlI (l : List Int) (its : List Itm) : List Itm := (its.filter fun i => !inB l i).map (restI l)
def itmOf (p : Prb) (id : Int) : Itm := p.it.getD ((p.it.map Itm.id).idxOf id) itm0
theorem itmOf_at {p : Prb} {id : Int} (h : id ∈ p.it.map Itm.id) : ∃ hk : (p.it.map Itm.id).idxOf id < p.it.length,ixI id (p.it.map Itm.id) = (((p.it.map Itm.id).idxOf id : Nat) : Int) ∧ itmOf p id = p.it[(p.it.map Itm.id).idxOf id] ∧ (itmOf p id).id = id := by
  have hk : (p.it.map Itm.id).idxOf id < (p.it.map Itm.id).length := List.idxOf_lt_length_iff.2 h;have hk' : (p.it.map Itm.id).idxOf id < p.it.length := by simpa using hk
  have he : itmOf p id = p.it[(p.it.map Itm.id).idxOf id] := ZaH itm0 hk';refine ⟨hk',if_pos h,he, ?_⟩;have h1 := List.getElem_idxOf hk;rw [List.getElem_map] at h1;rw [he]; exact h1
theorem rooms_valid {l : List Roo} (h : roomsE l = 0) : ∀ x ∈ l,validE x.r = 0 := fun x hx => by
  have h0 := ZbL.1 h;obtain ⟨j,hj,rfl⟩ := List.getElem_of_mem hx;have := h0 j (List.mem_range.2 hj);unfold rErr at this;rw [ZaH roo0 hj] at this
  split at this
  · contradiction
  · rename_i hn; simpa using hn
abbrev Hd := Option (Nat × Nat)
def hdrV : Hd → Nat → Value
  | none,_ => .slice none 0 0
  | some (b,c),n => sV b n c
abbrev hdr (h : Hd) (n : Nat) : D := .raw (hdrV h n)
structure Nd where
  it : Itm
  eh : Hd
  ef : List (Nat × Int)
  ph : Hd
  pl : List (Nat × Nat)
  on : Bool
structure Po where
  r : Rsc
  room : Int
  sum : Int
  qh : Hd
  q : List Nat
  mi : Nat
structure Net where
  nd : List Nd
  po : List Po
  nh : Hd
  mh : Hd
abbrev ndC (x : Nd) : List D := [intD x.it.id,intD x.it.pr,intD x.it.sq, .sl none (x.it.po.map postD), .sl none (x.it.pa.map payD), .sl none (x.it.af.map intD),hdr x.eh x.ef.length,hdr x.ph x.pl.length,boolD x.on]
abbrev poC (y : Po) : List D := [intD y.r.k,strD y.r.acc.o,intD y.r.acc.k,strD y.r.acc.a,strD y.r.f,strD y.r.t,intD y.room,intD y.sum,hdr y.qh y.q.length,intD (y.mi : Int)]
abbrev efD (pb : Nat → Nat) (e : Nat × Int) : D := .agg [pD (pb e.1) 0,intD e.2]
abbrev plD (pb : Nat → Nat) (e : Nat × Nat) : D := .agg [pD (pb e.1) 0,intD (e.2 : Int)]
abbrev ptrD (b : Nat) : D := pD b 0
def rowAt (M : MF) (h : Hd) (t : TypeId) (k : Nat) (xs : List D) : Prop := match h with
  | none => xs = []
  | some (b,c) => xs.length ≤ c ∧ M b = some (.row t k c xs)
abbrev ndM (x : Nd) : MObj := .cells 112 (ndC x)
abbrev poM (y : Po) : MObj := .cells 121 (poC y)
theorem rowAt_keep {M : MF} {b : Nat} {t' : TypeId} {cs : List D} {m' : MObj} (hb : M b = some (.cells t' cs)) {h : Hd} {t : TypeId} {k : Nat} {xs : List D} (hr : rowAt M h t k xs) : rowAt (Za2 M b m') h t k xs := by
  match h,hr with
  | none,hr => exact hr
  | some (b',c),hr =>
    refine ⟨hr.1, ?_⟩;rw [ZbD]
    · exact hr.2
    · rintro rfl;have h2 := hr.2;rw [hb] at h2; cases h2
abbrev rawD (v : Value) : D := .raw v
def po0 : Po := ⟨⟨0,accZ,[],[]⟩,0,0,none,[],0⟩
def nd0 : Nd := ⟨itm0,none,[],none,[],false⟩
structure RowM where
  h : Hd
  t : TypeId
  k : Nat
  xs : List D
inductive RI where
  | e (i : Nat)
  | p (i : Nat)
  | q (j : Nat)
  | n
  | m
def rowOf (nb pb : Nat → Nat) (N : Net) : RI → RowM
  | .e i => ⟨(N.nd.getD i nd0).eh,119,2,(N.nd.getD i nd0).ef.map (efD pb)⟩
  | .p i => ⟨(N.nd.getD i nd0).ph,165,2,(N.nd.getD i nd0).pl.map (plD pb)⟩
  | .q j => ⟨(N.po.getD j po0).qh,103,1,(N.po.getD j po0).q.map fun i => ptrD (nb i)⟩
  | .n => ⟨N.nh,103,1,(List.range N.nd.length).map fun i => ptrD (nb i)⟩
  | .m => ⟨N.mh,117,1,(List.range N.po.length).map fun j => ptrD (pb j)⟩
def RowsM (M : MF) (R : RI → RowM) : Prop := (∀ r,rowAt M (R r).h (R r).t (R r).k (R r).xs) ∧ ∀ r r' b c c',(R r).h = some (b,c) → (R r').h = some (b,c') → r = r'
def mdelH (M : MF) : Hd → MF
  | none => M
  | some (b,_) => mdel_ M b
theorem RowsM.blk {M : MF} {R : RI → RowM} (h : RowsM M R) {r : RI} {b c : Nat} (hb : (R r).h = some (b,c)) : M b = some (.row (R r).t (R r).k c (R r).xs) := by
  have := h.1 r;rw [hb] at this; exact this.2
theorem mdelH_keep {M : MF} {h : Hd} {b : Nat} {m : MObj} (hm : M b = some m) (hne : ∀ c,h ≠ some (b,c)) : mdelH M h b = some m := by
  match h,hne with
  | none,_ => exact hm
  | some (b',c),hne =>
    show mdel_ M b' b = _;rw [mdel_ne (fun e => hne c (by rw [e]))]; exact hm
theorem keepM {M : MF} {h : Hd} {b b' : Nat} {m v : MObj} (hb : mdelH M h b = none) (hm : M b' = some m) (hne : ∀ c,h ≠ some (b',c)) : Za2 (mdelH M h) b v b' = some m := by
  have h1 := mdelH_keep hm hne;rw [ZbD]
  · exact h1
  · rintro rfl; rw [hb] at h1; cases h1
theorem RowsM.upd {M : MF} {R R' : RI → RowM} (h : RowsM M R) (r0 : RI) (hR : ∀ r,r ≠ r0 → R' r = R r) {b cap : Nat} (hb : mdelH M (R r0).h b = none) (h0 : (R' r0).h = some (b,cap)) (hl : (R' r0).xs.length ≤ cap) : RowsM (Za2 (mdelH M (R r0).h) b (.row (R' r0).t (R' r0).k cap (R' r0).xs)) R' := by
  have hother : ∀ r,r ≠ r0 → ∀ b' c,(R r).h = some (b',c) → b' ≠ b := fun r hr b' c hrb e => by
    have h1 := h.blk hrb;have h2 := mdelH_keep (h := (R r0).h) h1 fun c' hc' => hr (h.2 r r0 b' c c' hrb hc');rw [e,hb] at h2; cases h2
  refine ⟨fun r => ?_,fun r r' b1 c c' h1 h2 => ?_⟩
  · by_cases e : r = r0
    · subst e;rw [h0];exact ⟨hl,Zbt _ _ _⟩
    · rw [hR r e];have h1 := h.1 r
      cases hh : (R r).h with
      | none => rw [hh] at h1; exact h1
      | some p =>
        obtain ⟨b',c⟩ := p;rw [hh] at h1;exact ⟨h1.1,keepM hb h1.2 fun c' hc' => e (h.2 r r0 b' c c' hh hc')⟩
  · by_cases e : r = r0 <;> by_cases e' : r' = r0
    · rw [e,e']
    · exfalso
      subst e;rw [h0] at h1; injection h1 with h1; injection h1 with h1 _
      rw [hR r' e'] at h2;exact hother r' e' b1 c' h2 h1.symm
    · exfalso
      subst e';rw [h0] at h2; injection h2 with h2; injection h2 with h2 _
      rw [hR r e] at h1;exact hother r e b1 c h1 h2.symm
    · rw [hR r e] at h1; rw [hR r' e'] at h2;exact h.2 r r' b1 c c' h1 h2
theorem RowsM.cells {M : MF} {R : RI → RowM} (h : RowsM M R) {b : Nat} {t t' : TypeId} {cs cs' : List D} (_hb : M b = some (.cells t cs)) : RowsM (Za2 M b (.cells t' cs')) R :=
  ⟨fun r => rowAt_keep _hb (h.1 r),h.2⟩
structure Rep (wb mv : Nat) (nb pb : Nat → Nat) (N : Net) (M : MF) : Prop where
  n : ∀ (i : Nat) x,N.nd[i]? = some x → M (nb i) = some (ndM x)
  p : ∀ (j : Nat) y,N.po[j]? = some y → M (pb j) = some (poM y)
  rs : RowsM M (rowOf nb pb N)
  w : M wb = some (.cells 108 [hdr N.nh N.nd.length,hdr N.mh N.po.length,rawD (.map (some mv))])
  ni : ∀ i j : Nat,i < N.nd.length → j < N.nd.length → nb i = nb j → i = j
  pi : ∀ i j : Nat,i < N.po.length → j < N.po.length → pb i = pb j → i = j
  e : ∀ x ∈ N.nd,(∀ e ∈ x.ef,e.1 < N.po.length) ∧ ∀ e ∈ x.pl,e.1 < N.po.length
  q : ∀ y ∈ N.po, ∀ i ∈ y.q,i < N.nd.length
theorem getD_of {α : Type} {l : List α} {i : Nat} {x d : α} (h : l[i]? = some x) : l.getD i d = x := by rw [List.getD_eq_getElem?_getD,h]; rfl
theorem Rep.nn {wb mv : Nat} {nb pb : Nat → Nat} {N : Net} {M : MF} (h : Rep wb mv nb pb N M) (i : Nat) (x : Nd) (hx : N.nd[i]? = some x) : M (nb i) = some (ndM x) ∧ rowAt M x.eh 119 2 (x.ef.map (efD pb)) ∧ rowAt M x.ph 165 2 (x.pl.map (plD pb)) := by
  have h1 : rowAt M (N.nd.getD i nd0).eh 119 2 ((N.nd.getD i nd0).ef.map (efD pb)) := h.rs.1 (.e i);have h2 : rowAt M (N.nd.getD i nd0).ph 165 2 ((N.nd.getD i nd0).pl.map (plD pb)) := h.rs.1 (.p i);rw [getD_of hx] at h1 h2;exact ⟨h.n i x hx,h1,h2⟩
theorem Rep.pp {wb mv : Nat} {nb pb : Nat → Nat} {N : Net} {M : MF} (h : Rep wb mv nb pb N M) (j : Nat) (y : Po) (hy : N.po[j]? = some y) : M (pb j) = some (poM y) ∧ rowAt M y.qh 103 1 (y.q.map fun i => ptrD (nb i)) := by
  have h1 : rowAt M (N.po.getD j po0).qh 103 1 ((N.po.getD j po0).q.map fun i => ptrD (nb i)) := h.rs.1 (.q j);rw [getD_of hy] at h1;exact ⟨h.p j y hy,h1⟩
theorem Zcf {α : Type} {l : List α} {i : Nat} {x : α} (hi : i < l.length) (k : Nat) (d : α) : (l.set i x).getD k d = if k = i then x else l.getD k d := by
  rw [List.getD_eq_getElem?_getD,List.getElem?_set,List.getD_eq_getElem?_getD]
  by_cases e : k = i
  · subst e; simp [hi]
  · rw [if_neg (fun h => e h.symm),if_neg e]
theorem getD_self {α : Type} {l : List α} {i : Nat} {x : α} (hx : l[i]? = some x) (k : Nat) (d : α) : l.getD k d = if k = i then x else l.getD k d := by
  by_cases e : k = i
  · subst e; rw [if_pos rfl,getD_of hx]
  · rw [if_neg e]
theorem Rep.setPo {wb mv : Nat} {nb pb : Nat → Nat} {N : Net} {M : MF} (h : Rep wb mv nb pb N M) {j : Nat} {y y' : Po} (hy : N.po[j]? = some y) (hq : y'.q = y.q) (hqh : y'.qh = y.qh) : Rep wb mv nb pb { N with po := N.po.set j y' } (Za2 M (pb j) (poM y')) := by
  have hb := h.p j y hy;have hjl := (List.getElem?_eq_some_iff.1 hy).1
  have hR : rowOf nb pb { N with po := N.po.set j y' } = rowOf nb pb N := funext fun r => by
    cases r with
    | e i => rfl
    | p i => rfl
    | n => rfl
    | m => show (⟨_,_,_,(List.range (N.po.set j y').length).map _⟩ : RowM) = _; rw [List.length_set]; rfl
    | q k =>
      show (⟨((N.po.set j y').getD k po0).qh,_,_,((N.po.set j y').getD k po0).q.map _⟩ : RowM) = ⟨(N.po.getD k po0).qh,_,_,(N.po.getD k po0).q.map _⟩
      rw [Zcf hjl,getD_self hy k po0]
      split
      · rw [hq,hqh]
      · rfl
  have hne : ∀ (b : Nat) (t : TypeId) (cs : List D),t ≠ 121 → M b = some (.cells t cs) → Za2 M (pb j) (poM y') b = some (.cells t cs) := fun b t cs ht hm => by
    rw [ZbD]
    · exact hm
    · rintro rfl; rw [hb] at hm; injection hm with hm; injection hm with hm; exact ht hm.symm
  refine ⟨fun i x hx => hne _ _ _ (by decide) (h.n i x hx),fun i z hz => ?_,by rw [hR]; exact h.rs.cells hb, ?_,h.ni,fun i k hi hk => h.pi i k (by simpa using hi) (by simpa using hk),fun x hx => ?_,fun z hz => ?_⟩
  · have hil : i < N.po.length := by have := (List.getElem?_eq_some_iff.1 hz).1; rw [List.length_set] at this; exact this
    have hz2 : (N.po.set j y')[i]? = some z := hz
    clear hz
    rw [List.getElem?_set] at hz2
    split at hz2
    · rename_i e; subst e
      have e2 : z = y' := (Option.some.inj hz2).symm;rw [e2]; exact Zbt _ _ _
    · rename_i e
      rw [ZbD]
      · exact h.p i z hz2
      · intro e2; exact e (h.pi i j hil hjl e2).symm
  · show Za2 M (pb j) (poM y') wb = some (.cells _ [hdr N.nh N.nd.length,hdr N.mh (N.po.set j y').length,_]);rw [List.length_set];exact hne _ _ _ (by decide) h.w
  · have := h.e x hx
    simpa using this
  · rcases List.mem_or_eq_of_mem_set hz with hz | rfl
    · exact h.q z hz
    · rw [hq]; exact h.q y (List.mem_of_getElem? hy)
theorem Rep.setNd {wb mv : Nat} {nb pb : Nat → Nat} {N : Net} {M : MF} (h : Rep wb mv nb pb N M) {i : Nat} {x x' : Nd} (hx : N.nd[i]? = some x) (h1 : x'.ef = x.ef) (h2 : x'.eh = x.eh) (h3 : x'.pl = x.pl) (h4 : x'.ph = x.ph) : Rep wb mv nb pb { N with nd := N.nd.set i x' } (Za2 M (nb i) (ndM x')) := by
  have hb := h.n i x hx;have hil := (List.getElem?_eq_some_iff.1 hx).1
  have hR : rowOf nb pb { N with nd := N.nd.set i x' } = rowOf nb pb N := funext fun r => by
    cases r with
    | q j => rfl
    | m => rfl
    | n => show (⟨_,_,_,(List.range (N.nd.set i x').length).map _⟩ : RowM) = _; rw [List.length_set]; rfl
    | e k =>
      show (⟨((N.nd.set i x').getD k nd0).eh,_,_,((N.nd.set i x').getD k nd0).ef.map _⟩ : RowM) = ⟨(N.nd.getD k nd0).eh,_,_,(N.nd.getD k nd0).ef.map _⟩
      rw [Zcf hil,getD_self hx k nd0]
      split
      · rw [h1,h2]
      · rfl
    | p k =>
      show (⟨((N.nd.set i x').getD k nd0).ph,_,_,((N.nd.set i x').getD k nd0).pl.map _⟩ : RowM) = ⟨(N.nd.getD k nd0).ph,_,_,(N.nd.getD k nd0).pl.map _⟩
      rw [Zcf hil,getD_self hx k nd0]
      split
      · rw [h3,h4]
      · rfl
  have hne : ∀ (b : Nat) (t : TypeId) (cs : List D),t ≠ 112 → M b = some (.cells t cs) → Za2 M (nb i) (ndM x') b = some (.cells t cs) := fun b t cs ht hm => by
    rw [ZbD]
    · exact hm
    · rintro rfl; rw [hb] at hm; injection hm with hm; injection hm with hm; exact ht hm.symm
  refine ⟨fun j z hz => ?_,fun j y hy => hne _ _ _ (by decide) (h.p j y hy),by rw [hR]; exact h.rs.cells hb, ?_,fun j k hj hk => h.ni j k (by simpa using hj) (by simpa using hk),h.pi,fun z hz => ?_,fun y hy => ?_⟩
  · have hjl : j < N.nd.length := by have := (List.getElem?_eq_some_iff.1 hz).1; rw [List.length_set] at this; exact this
    have hz2 : (N.nd.set i x')[j]? = some z := hz
    clear hz
    rw [List.getElem?_set] at hz2
    split at hz2
    · rename_i e; subst e
      have e2 : z = x' := (Option.some.inj hz2).symm;rw [e2]; exact Zbt _ _ _
    · rename_i e
      rw [ZbD]
      · exact h.n j z hz2
      · intro e2; exact e (h.ni j i hjl hil e2).symm
  · show Za2 M (nb i) (ndM x') wb = some (.cells _ [hdr N.nh (N.nd.set i x').length,hdr N.mh N.po.length,_]);rw [List.length_set];exact hne _ _ _ (by decide) h.w
  · rcases List.mem_or_eq_of_mem_set hz with hz | rfl
    · exact h.e z hz
    · rw [h1,h3]; exact h.e x (List.mem_of_getElem? hx)
  · have := h.q y hy
    simpa using this
abbrev HN (M : MF) : Hp := [(40,[.multi M])]
def aftP (y : Po) (c : Int) : Int := max y.room 0 + c
def ovP (y : Po) (c : Int) : Bool := decide (c < 0 ∧ aftP y c < 0)
theorem after_c {wb mv : Nat} {nb pb : Nat → Nat} {N : Net} {M : MF} (h : Rep wb mv nb pb N M) {j : Nat} {y : Po} (hy : N.po[j]? = some y) (c : Int) (hr : -1000000000000000000 ≤ y.room ∧ y.room ≤ 1000000000000000000) (hc : -2000000000000000000 ≤ c ∧ c ≤ 2000000000000000000) :
    ACalls Tryz.prog 57 [.d (pD (pb j) 0), .d (intD c)] (HN M) fun r H' => r = .d (intD (aftP y c)) ∧ H' = HN M := by
  have hp := h.p j y hy;have hm : (if 0 > y.room then 0 else y.room) = max y.room 0 := by rw [Int.max_def]; split <;> split <;> omega
  refine ZaB Tryz.func57 rfl rfl Tryz.ntmps57 rfl rfl rfl fun F hF => (Zad (Zab (goAs rfl rfl (Zac (Zad (Zab (goMv rfl rfl ?_)))))));refine Zaa.go (Zax rfl rfl) (Zaa.go (Zav rfl ZbW rfl rfl rfl) (Zaa.go (ZaV (f := 40) rfl rfl (hp) rfl on2 rfl) (Zaa.go (st_max rfl rfl (hm) rfl) (goMv rfl rfl (Zaa.go (Zay rfl rfl (IntWalk.i64_in _ (by omega)) rfl) (goAs rfl rfl (Zac (Zao ?_))))))));exact ⟨_,[40],_,Zak rfl,rfl,rfl,rfl,rfl⟩
theorem overdrawn_c {wb mv : Nat} {nb pb : Nat → Nat} {N : Net} {M : MF} (h : Rep wb mv nb pb N M) {j : Nat} {y : Po} (hy : N.po[j]? = some y) (c : Int) (hr : -1000000000000000000 ≤ y.room ∧ y.room ≤ 1000000000000000000) (hc : -2000000000000000000 ≤ c ∧ c ≤ 2000000000000000000) :
    ACalls Tryz.prog 56 [.d (pD (pb j) 0), .d (intD c)] (HN M) fun r H' => r = .d (boolD (ovP y c)) ∧ H' = HN M := by
  have ha := after_c h hy c hr hc;refine ZaB Tryz.func56 rfl rfl Tryz.ntmps56 rfl rfl rfl fun F hF => (Zad ?_);refine Zab (goAs rfl rfl (Zac (Zad (Zab (goMv rfl rfl (Zaa.go (ZaI rfl rfl rfl) (goMv rfl rfl (ZaP 7 rfl (fun h7 => ?_) (fun h7 => ?_)))))))))
  · refine Zal rfl rfl rfl (goMv rfl rfl (Zal rfl rfl rfl ?_));refine goMv rfl rfl (Zal rfl rfl rfl (Zaj.go (Zbh ha rfl [40] ⟨rfl,trivial⟩ rfl rfl rfl rfl rfl rfl rfl rfl rfl) (Zal rfl rfl rfl (Zaa.go (ZaI rfl rfl rfl) (Zaa.go (Zaw rfl rfl rfl rfl) (goAs rfl rfl (Zac (Zao ?_))))))));exact ⟨_,[40],_,Zak rfl,rfl,rfl,retB3 (by unfold ovP; first | exact (decide_eq_false (by omega)).symm | exact decide_eq_decide.2 ⟨fun h => ⟨by omega,h⟩,fun h => h.2⟩),rfl⟩
  · refine Zai rfl rfl rfl rfl (Zai rfl rfl rfl rfl (Zai rfl rfl rfl rfl (Zai rfl rfl rfl rfl (Zaa.go (ZaG rfl rfl rfl rfl) (goAs rfl rfl (Zac (Zao ?_)))))));exact ⟨_,[40],_,Zak rfl,rfl,rfl,retB3 (by unfold ovP; first | exact (decide_eq_false (by omega)).symm | exact decide_eq_decide.2 ⟨fun h => ⟨by omega,h⟩,fun h => h.2⟩),rfl⟩
section
variable {P : Program} {F : Fr} {s : AS} {d : Nat} {x y : Operand} {T E : TypeId} {ty : TypeId} {pos : String} {aft : Array Edge} {g : Option (Nat × Bool)} {k : IntKind} {i : Int}
theorem ZbV {h : Hd} {n : Nat} (hz : h = none → n = 0) (hx : s.ev x = some (.d (hdr h n))) (hT : P.underlying T = some (.slice E)) (hd : Nat.blt d s.n = true) :
    Zaa P F ⟨some d, .call { callee := .builtin .len,args := #[x],argTypes := #[T] },ty,pos,aft,g⟩ s d (.d (intD (n : Int))) := by
  match h,hz,hx with
  | none,hz,hx =>
    have e := hz rfl;subst e;exact st_lenN (a := none) (n := 0) (cap := 0) hx hT hd
  | some (b,c),_,hx => exact st_lenN (a := some ⟨b,0,none⟩) (n := n) (cap := c) hx hT hd
theorem ZbB {h : Hd} {b c n kk : Nat} (he : h = some (b,c)) (m : Nat) (hx : s.ev x = some (.d (hdr h n))) (hy : s.ev y = some (.d (.raw (.int k i)))) (hi : i = (m : Int)) (hm : m < n) (hT : P.underlying T = some (.slice E)) (hE : sizeTy P E kk = true) (hd : Nat.blt d s.n = true) :
    Zaa P F ⟨some d, .indexAddr T x y,ty,pos,aft,g⟩ s d (.d (pD b (m * kk))) := by
  subst he;exact st_indexN m hx hy hi hm hT hE hd
end
theorem Zbs {M : MF} {h : Hd} {t : TypeId} {k : Nat} {α : Type} {f : α → D} {l : List α} (hr : rowAt M h t k (l.map f)) : h = none → l.length = 0 := fun e => by
  subst e;have : l.map f = [] := hr
  simpa using this
theorem Zbr {M : MF} {h : Hd} {t : TypeId} {k : Nat} {α : Type} {f : α → D} {l : List α} (hr : rowAt M h t k (l.map f)) {j : Nat} (hj : j < l.length) : ∃ b c,h = some (b,c) := by
  cases h with
  | none => have := Zbs hr rfl; omega
  | some p => exact ⟨p.1,p.2,rfl⟩
theorem Zby {M : MF} {h : Hd} {t : TypeId} {k : Nat} {xs : List D} (hr : rowAt M h t k xs) {b c : Nat} (he : h = some (b,c)) : M b = some (.row t k c xs) := by
  subst he; exact hr.2
def subE (po : List Po) (e : Nat × Int) : List Po := match po[e.1]? with
  | some y => po.set e.1 { y with sum := y.sum - e.2 }
  | none => po
def minE (po : List Po) (e : Nat × Nat) : List Po := match po[e.1]? with
  | some y => po.set e.1 { y with mi := min y.mi e.2 }
  | none => po
theorem subE_at {po : List Po} {e : Nat × Int} {y : Po} (h : po[e.1]? = some y) : subE po e = po.set e.1 { y with sum := y.sum - e.2 } := by unfold subE; rw [h]
theorem minE_at {po : List Po} {e : Nat × Nat} {y : Po} (h : po[e.1]? = some y) : minE po e = po.set e.1 { y with mi := min y.mi e.2 } := by unfold minE; rw [h]
def offN (x : Nd) : Nd := { x with on := false }
def rmN (N : Net) (i : Nat) (x : Nd) : Net := { N with nd := N.nd.set i (offN x),po := x.pl.foldl minE (x.ef.foldl subE N.po) }
theorem fold_snoc {α β : Type} {f : β → α → β} {l : List α} {k : Nat} (hk : k < l.length) (b : β) : (l.take (k + 1)).foldl f b = f ((l.take k).foldl f b) l[k] := by
  rw [List.take_succ_eq_append_getElem hk,List.foldl_append]; rfl
def sumB (po : List Po) (b : Int) : Prop := ∀ y ∈ po, -b ≤ y.sum ∧ y.sum ≤ b
theorem sumB_set {po : List Po} {b c : Int} (h : sumB po b) (hbc : b ≤ c) {j : Nat} {y : Po} (hy : -c ≤ y.sum ∧ y.sum ≤ c) : sumB (po.set j y) c := fun z hz => by
  rcases List.mem_or_eq_of_mem_set hz with hz | rfl
  · have := h z hz; omega
  · exact hy
theorem remove_c {wb mv : Nat} {nb pb : Nat → Nat} {N : Net} {M : MF} (h : Rep wb mv nb pb N M) {i : Nat} {x : Nd} (hx : N.nd[i]? = some x) (hB : sumB N.po 1000000000000000000) (he : ∀ e ∈ x.ef, -100000000000000000 ≤ e.2 ∧ e.2 ≤ 100000000000000000) (hel : x.ef.length ≤ 60) (hpl : x.pl.length ≤ 1000) (hpb : ∀ e ∈ x.pl,e.2 ≤ 1000000) (hmb : ∀ y ∈ N.po,y.mi ≤ 1000000) :
    ACalls Tryz.prog 45 [.d (pD (nb i) 0)] (HN M) fun r H' => r = .tup [] ∧ ∃ M',H' = HN M' ∧ Rep wb mv nb pb (rmN N i x) M' := by
  have hxb := (h.nn i x hx).1;have hil := (List.getElem?_eq_some_iff.1 hx).1;have h1 := h.setNd (x' := offN x) hx rfl rfl rfl rfl;have hx1 : (N.nd.set i (offN x))[i]? = some (offN x) := by rw [List.getElem?_set_self hil]
  have hez := Zbs (h.nn i x hx).2.1;have hpz := Zbs (h.nn i x hx).2.2;have hxe := h.e x (List.mem_of_getElem? hx);refine ZaB Tryz.func45 rfl rfl Tryz.ntmps45 rfl rfl rfl fun F hF => (Zad ?_);refine Zab (goMv rfl rfl (Zaa.go (Zax rfl rfl) (Zaa.go (Zav rfl Zb5 rfl rfl rfl) (Zaj.go (Zb3 (f := 40) rfl rfl rfl rfl (hxb) ((by show _ < 9; omega)) rfl sz4) (Zac (Zad (Zad (Zab ?_))))))));refine goMv rfl rfl (Zaa.go (Zax rfl rfl) (Zaa.go (Zav rfl fi112_1 rfl rfl rfl) (Zaa.go (ZaV (f := 40) rfl rfl ((Zbt _ _ _)) rfl on109 rfl) (Zaa.go (ZbV hez rfl Tryz.underlying109 rfl) (goMv rfl rfl (Zac (Zam (ZaK (α := Nat × List Po × MF) (fun q => ⟨51,[(0, .d (pD (nb i) 0)),(12,(.d (hdr x.eh x.ef.length))),(13,(.d (intD (x.ef.length : Int)))),(14,(.d (intD (q.1 : Int))))],HN q.2.2⟩) (fun q => q.1 ≤ x.ef.length ∧ q.2.1 = (x.ef.take q.1).foldl subE N.po ∧ Rep wb mv nb pb { N with nd := N.nd.set i (offN x),po := q.2.1 } q.2.2 ∧ sumB q.2.1 (1000000000000000000 + 100000000000000000 * (q.1 : Int)) ∧ (∀ y ∈ q.2.1,y.mi ≤ 1000000) ∧ q.2.1.length = N.po.length) (fun q => x.ef.length - q.1) ((0,N.po,Za2 M (nb i) (ndM (offN x)))) (⟨Nat.zero_le _,rfl,h1,by show sumB N.po (1000000000000000000 + 100000000000000000 * ((0 : Nat) : Int)); simpa using hB,hmb,rfl⟩) (Zaq hF [40] rfl rfl ⟨rfl,rfl,rfl,rfl,trivial⟩) ?_))))))));rintro ⟨k,po,M1⟩ ⟨hk0,hpo,hR,hS,hmi,hpol⟩;dsimp only at hk0 hpo hR hS hmi hpol ⊢;refine Zad (Zab (Zaa.go (ZaI rfl rfl rfl) (Zac (Zad (ZaF rfl (fun h15 => ?_) (fun h15 => ?_))))))
  · have hk1 : k < x.ef.length := ZaN h15;refine Zap (Zad (Zam (Zad ?_)));obtain ⟨eb,ec,hee⟩ := Zbr (h.nn i x hx).2.1 hk1;have hrow := Zby (hR.nn i (offN x) hx1).2.1 hee;have hjl : x.ef[k].1 < po.length := by rw [hpol]; exact hxe.1 _ (List.getElem_mem hk1)
    obtain ⟨y,hy⟩ : ∃ y,po[x.ef[k].1]? = some y := ⟨_,List.getElem?_eq_getElem hjl⟩
    have hyb := hR.p _ y hy;have hys := hS y (List.mem_of_getElem? hy);have heb := he _ (List.getElem_mem hk1);refine Zab ?_;refine Zaa.go (ZbB hee (k) rfl rfl rfl hk1 Tryz.underlying109 sz119 rfl) (Zaa.go (st_loadRNS (f := 40) (e := k) rfl (rfl) rfl (hrow) (getm hk1) rfl rw119 rfl) (Zaj.go (ZaQ 1 zl119 rfl rfl rfl rfl) (Zaj.go (Zaz rfl rfl rfl rfl rfl rfl rfl sz119) (Zac (ZaT [[],[0],[0,1],[0,1,2],[0,1,2,3],[],[5],[0,1,2,3,4,5,6],[0,1,2,3,4,5,6,7],[0,1,2,3,4,5,6,7,8],[0,1,2,3,4,5,6,7,8,9]] mixed rfl (dws (Zaf [3] [] rfl rfl (fun _ => Zae (Zag rfl fi119_0 rfl rfl rfl)) (Zaf [18] [1] rfl rfl (fun _ => Zae (Zah rfl rfl rfl on117 rfl)) ?_))))))));refine Zaf [19] [] rfl rfl (fun _ => Zae (Zax rfl rfl)) (Zaf [20] [] rfl rfl (fun _ => Zae (Zav rfl fi121_2 rfl rfl rfl)) (Zaf [21] [40] rfl rfl (fun _ => Zae (ZaV (f := 40) rfl rfl (hyb) rfl on2 rfl)) (Zaf [3] [] rfl rfl (fun _ => Zae (Zag rfl fi119_1 rfl rfl rfl)) (Zaf [23] [1] rfl rfl (fun _ => Zae (Zah rfl rfl rfl on2 rfl)) (dwc 7 rfl rfl rfl (dw1 8 rfl rfl (Zaa.go (st_sub rfl rfl (IntWalk.i64_in _ (by omega)) rfl) (Zac ⟨rfl, ?_⟩))))))));refine dw1 9 rfl rfl (Zaa.go (Zax rfl rfl) (Zac ⟨rfl, ?_⟩));refine dw1 10 rfl rfl (Zaa.go (Zav rfl fi121_2 rfl rfl rfl) (Zac ⟨rfl, ?_⟩));refine dw1 11 rfl rfl (Zaj.go (Zb3 (f := 40) rfl rfl rfl rfl (hyb) ((by show _ < 10; omega)) rfl sz2) (Zac ⟨rfl, ?_⟩));refine dwe (Zab (Zaa.go (Zay rfl rfl (wrapS (k + 1) (by omega)) rfl) (goMv rfl rfl (Zac ?_))));exact ⟨(k + 1,po.set x.ef[k].1 { y with sum := y.sum - x.ef[k].2 },Za2 M1 (pb x.ef[k].1) (poM { y with sum := y.sum - x.ef[k].2 })),⟨by show k + 1 ≤ _; omega,by show po.set _ _ = _; rw [fold_snoc hk1, ← hpo,subE_at hy],hR.setPo hy rfl rfl,by show sumB _ (1000000000000000000 + 100000000000000000 * ((k + 1 : Nat) : Int)); exact sumB_set hS (by omega) (by show _ ≤ y.sum - x.ef[k].2 ∧ y.sum - x.ef[k].2 ≤ _; omega),fun z hz => by rcases List.mem_or_eq_of_mem_set hz with hz | rfl; exact hmi z hz; exact hmi y (List.mem_of_getElem? hy),by show (po.set _ _).length = _; rw [List.length_set]; exact hpol⟩,by show x.ef.length - (k + 1) < x.ef.length - k; omega,Zaq hF [40] rfl (rfl) ⟨rfl,rfl,rfl,rfl,trivial⟩⟩
  · refine ZaL (Zad ?_);have hpo1 : po = x.ef.foldl subE N.po := by rw [hpo,List.take_of_length_le (by have h := h15; omega)]
    have hxb1 := (hR.nn i (offN x) hx1).1;refine Zab ?_;refine goMv rfl rfl (Zaa.go (Zax rfl rfl) (Zaa.go (Zav rfl fi112_2 rfl rfl rfl) (Zaa.go (ZaV (f := 40) rfl rfl (hxb1) rfl on110 rfl) (Zaa.go (ZbV hpz rfl Tryz.underlying110 rfl) (goMv rfl rfl (Zac (Zam (ZaK (α := Nat × List Po × MF) (fun q => ⟨51,[(32,(.d (hdr x.ph x.pl.length))),(33,(.d (intD (x.pl.length : Int)))),(34,(.d (intD (q.1 : Int))))],HN q.2.2⟩) (fun q => q.1 ≤ x.pl.length ∧ q.2.1 = (x.pl.take q.1).foldl minE (x.ef.foldl subE N.po) ∧ Rep wb mv nb pb { N with nd := N.nd.set i (offN x),po := q.2.1 } q.2.2 ∧ (∀ y ∈ q.2.1,y.mi ≤ 1000000) ∧ q.2.1.length = N.po.length) (fun q => x.pl.length - q.1) ((0,po,M1)) (⟨Nat.zero_le _,hpo1,hR,hmi,hpol⟩) (Zaq hF [40] rfl rfl ⟨rfl,rfl,rfl,trivial⟩) ?_))))))));rintro ⟨j,po2,M2⟩ ⟨hj0,hpo2,hR2,hmi2,hpol2⟩;dsimp only at hj0 hpo2 hR2 hmi2 hpol2 ⊢;refine Zad (Zab (Zaa.go (ZaI rfl rfl rfl) (Zac (Zad (ZaF rfl (fun h35 => ?_) (fun h35 => ?_))))))
    · have hj1 : j < x.pl.length := ZaN h35;refine Zap (Zad (Zam (Zad ?_)));obtain ⟨pbk,pcc,hpe⟩ := Zbr (h.nn i x hx).2.2 hj1;have hrow2 := Zby (hR2.nn i (offN x) hx1).2.2 hpe;have hjl2 : x.pl[j].1 < po2.length := by rw [hpol2]; exact hxe.2 _ (List.getElem_mem hj1)
      obtain ⟨z,hz⟩ : ∃ z,po2[x.pl[j].1]? = some z := ⟨_,List.getElem?_eq_getElem hjl2⟩
      have hzb := hR2.p _ z hz;have hzm := hmi2 z (List.mem_of_getElem? hz);have hmin : (if ((x.pl[j].2 : Nat) : Int) < ((z.mi : Nat) : Int) then ((x.pl[j].2 : Nat) : Int) else ((z.mi : Nat) : Int)) = ((min z.mi x.pl[j].2 : Nat) : Int) := by split <;> omega
      refine Zab (Zaa.go (ZbB hpe (j) rfl rfl rfl hj1 Tryz.underlying110 sz165 rfl) (Zaa.go (st_loadRNS (f := 40) (e := j) rfl (rfl) rfl (hrow2) (getm hj1) rfl rw165 rfl) (Zaj.go (ZaQ 2 zl165 rfl rfl rfl rfl) ?_)));refine Zaj.go (Zaz rfl rfl rfl rfl rfl rfl rfl sz165) (Zac (ZaT [[],[0],[],[2],[2,3],[2,3,4],[2,3,4,5],[],[7],[2,3,4,5,6,7,8],[0,1,2,3,4,5,6,7,8,9],[0,1,2,3,4,5,6,7,8,9,10],[0,1,2,3,4,5,6,7,8,9,10,11]] mixed rfl (dws (Zaf [5] [] rfl rfl (fun _ => Zae (Zag rfl fi165_0 rfl rfl rfl)) (Zaf [38] [2] rfl rfl (fun _ => Zae (Zah rfl rfl rfl on117 rfl)) (Zaf [5] [] rfl rfl (fun _ => Zae (Zag rfl fi165_0 rfl rfl rfl)) (Zaf [40] [2] rfl rfl (fun _ => Zae (Zah rfl rfl rfl on117 rfl)) (Zaf [41] [] rfl rfl (fun _ => Zae (Zax rfl rfl)) ?_))))))));refine Zaf [42] [] rfl rfl (fun _ => Zae (Zav rfl fi121_4 rfl rfl rfl)) (Zaf [43] [40] rfl rfl (fun _ => Zae (ZaV (f := 40) rfl rfl (hzb) rfl on3 rfl)) (Zaf [5] [] rfl rfl (fun _ => Zae (Zag rfl fi165_1 rfl rfl rfl)) (Zaf [45] [2] rfl rfl (fun _ => Zae (Zah rfl rfl rfl on3 rfl)) (Zaf [44,46] [] rfl rfl (fun _ => Zae (st_min rfl rfl (hmin) rfl)) (dwc 10 rfl rfl rfl (dw1 11 rfl rfl (Zaa.go (Zax rfl rfl) (Zac ⟨rfl, ?_⟩))))))));refine dw1 12 rfl rfl (Zaa.go (Zav rfl fi121_4 rfl rfl rfl) (Zac ⟨rfl, ?_⟩));refine dw1 13 rfl rfl (Zaj.go (Zb3 (f := 40) rfl rfl rfl rfl (hzb) ((by show _ < 10; omega)) rfl sz3) (Zac ⟨rfl, ?_⟩));refine dwe ?_;skip;refine Zab (Zaa.go (Zay rfl rfl (wrapS (j + 1) (by omega)) rfl) (goMv rfl rfl (Zac ?_)));exact ⟨(j + 1,po2.set x.pl[j].1 { z with mi := min z.mi x.pl[j].2 },Za2 M2 (pb x.pl[j].1) (poM { z with mi := min z.mi x.pl[j].2 })),⟨by show j + 1 ≤ _; omega,by show po2.set _ _ = _; rw [fold_snoc hj1, ← hpo2,minE_at hz],hR2.setPo hz rfl rfl,fun w hw => by rcases List.mem_or_eq_of_mem_set hw with hw | rfl; exact hmi2 w hw; show min z.mi _ ≤ _; omega,by show (po2.set _ _).length = _; rw [List.length_set]; exact hpol2⟩,by show x.pl.length - (j + 1) < x.pl.length - j; omega,Zaq hF [40] rfl (rfl) ⟨rfl,rfl,rfl,trivial⟩⟩
    · refine ZaL ?_;have hpo3 : po2 = x.pl.foldl minE (x.ef.foldl subE N.po) := by rw [hpo2,List.take_of_length_le (by have h := h35; omega)]
      exact ⟨_,[40],_,Zak rfl,rfl,rfl,rfl,M2,rfl,by unfold rmN; rw [← hpo3]; exact hR2⟩
end Go.Proofs.YtneihdahboilnaaGreat
