/- Layer 30: the reference: the next exclusion. -/
import Derived.Test.YtneihdahboilnaaGreatMg23
namespace Go.Proofs.YtneihdahboilnaaGreat
open Go.RowKit
set_option maxRecDepth 100000
def overX (its its0 : List Itm) (l : List Int) (x : Roo) : Option Exc := if overL its0 x l < 0 then ((qIds its x.r).reverse.find? fun a => decide (a ∈ l)).map fun a => ⟨a,0,x.r, -1⟩ else none
def nextR (p : Prb) (l : List Int) : Option Exc := match l.findSome? (blockR p l) with
  | some e => some e
  | none => (rosS p).findSome? (overX (sortO p.it) p.it l)
theorem rev_find {α : Type} {p : α → Bool} {Q : List α} {m : Nat} (hm : m < Q.length) (h0 : ∀ a ∈ Q.drop (m + 1),p a = false) (h1 : p Q[m] = true) : Q.reverse.find? p = some Q[m] := by
  have e : Q.reverse = (Q.drop (m + 1)).reverse ++ (Q[m] :: (Q.take m).reverse) := by
    conv => lhs; rw [← List.take_append_drop m Q,List.drop_eq_getElem_cons hm]
    rw [List.reverse_append,List.reverse_cons,List.append_assoc]; rfl
  rw [e,List.find?_append,Zcd (fun a ha => h0 a (List.mem_reverse.1 ha)),List.find?_cons,h1]; rfl
set_option maxHeartbeats 1000000 in
theorem next30_p (p : Prb) (hf : FewP p) (hE : prbE p = 0) (l : List Int) (hl : l.length ≤ 1000) (hids : ∀ id ∈ l,id ∈ p.it.map Itm.id) : PCalls Tryz.prog 46 [.d (prbD p), .d (.sl none (l.map intD))] (excRD (nextR p l)) := by
  have hrm := rooms30_p p hE (by have := hf.r; omega);have hbr : ∀ e,l.findSome? (blockR p l) = some e → nextR p l = some e := fun e h => by unfold nextR; rw [h]
  have hbn : l.findSome? (blockR p l) = none → nextR p l = (rosS p).findSome? (overX (sortO p.it) p.it l) := fun h => by unfold nextR; rw [h]
  have hrl : (rosS p).length ≤ 100 := by rw [(rosS_perm p).length_eq]; exact hf.r
  have hrn : ∀ x ∈ rosS p, -4000000000000000 ≤ x.n ∧ x.n ≤ 4000000000000000 := (sml_P hf hE).n;have hil := hf.i;have hqf := fun (r : Rsc) => refqueue_p p r (by omega) (fun i hi => by have h := hf.x i ((Zbe p.it).mem_iff.1 hi); omega);have hql : ∀ r,(qIds (sortO p.it) r).length ≤ 30 := fun r => by unfold qIds; rw [List.length_map]; have := List.length_filter_le (fun i => decide (dltE i r < 0)) (sortO p.it); rw [ZbP] at this; omega
  obtain ⟨ros,hros⟩ : ∃ ros,rosS p = ros := ⟨_,rfl⟩
  obtain ⟨S,hS⟩ : ∃ S,sortO p.it = S := ⟨_,rfl⟩
  rw [hros] at hrm hbn hrl hrn;rw [hS] at hbn hqf hql;refine ZaB Tryz.func46 rfl rfl Tryz.ntmps46 rfl rfl rfl fun F hF => (Zad (Zab (Zaj.go (ZaS 1 rfl rfl rfl rfl rfl rfl rfl) (Zaj.go (ZaQ 2 zl58 rfl rfl rfl rfl) ?_))));refine goAs rfl rfl (Zac (Zad (Zad (Zab (goAs rfl rfl (Zac (Zam (ZaK (α := Nat) (fun k => ⟨78,[(1, .d (.sl none (l.map intD))),(2,(.ptr 1 0 0)),(4,(.ptr 2 0 0)),(6,(.d (intD (k : Int))))],[(1,[prbB2 25 p]),(2,[excX exc0])]⟩) (fun k => k ≤ l.length ∧ ∀ x ∈ l.take k,blockR p l x = none) (fun k => l.length - k) (0) (⟨Nat.zero_le _,by simp⟩) (Zaq hF [1,2] rfl rfl ⟨rfl,rfl,rfl,rfl,trivial⟩) ?_))))))));rintro k ⟨hk0,hkb⟩;refine Zad (Zad (Zab (goMv rfl rfl (goMv rfl rfl (Zaa.go (ZaA rfl Tryz.underlying28 rfl) (Zaa.go (ZaI rfl rfl rfl) (Zac (ZaF rfl (fun h16 => ?_) (fun h16 => ?_)))))))))
  · have hk1 : k < l.length := ZaN h16;refine Zap (Zad (Zam (Zad ?_)));have hbl := blocked_p p hf hE l l[k] hl (hids _ (List.getElem_mem hk1));refine ZaT [[],[],[],[],[2,3],[2,3,4],[0,1,2,3,4,5],[0,1,2,3,4,5,6],[0,1,2,3,4,5,6,7],[0,1,2,3,4,5,6,7],[],[0,1,2,3,4,5,6,7,8,10],[0,1,2,3,4,5,6,7,8,9,10,11]] mixed rfl (dws (Zaf [2] [1] rfl rfl (fun _ => Zae (Zas rfl rfl rw25 rfl rfl rfl)) (Zaf [1] [] rfl rfl (fun _ => Zae (Zar rfl rfl)) (Zaf [1] [] rfl rfl (fun _ => Zae (Zar rfl rfl)) (Zaf [6] [] rfl rfl (fun _ => Zae (Zar rfl rfl)) (Zaf [22,23] [] rfl rfl (fun _ => Zae (Zat (k) rfl rfl (rfl) (getm hk1) Tryz.underlying28 rfl sz3 rfl)) (Zaf [24] [] rfl rfl (fun _ => Zae (ZaE rfl rfl on3 rfl)) (Zaf [20,21,25] [] rfl rfl (fun _ => Zae (Zau (hbl) rfl rfl)) ?_))))))));refine Zaf [26] [] rfl rfl (fun _ => Zae (Zar rfl rfl)) (Zaf [19] [] rfl rfl (fun _ => Zae (ZaR rfl rfl rfl)) (Zaf [19] [] rfl rfl (fun _ => Zae (ZaR rfl rfl rfl)) (Zbf [] [3] [(7,_)] rfl rfl (fun _ => Za5 (ZaQ 3 zl58 rfl rfl rfl rfl)) (.inr ⟨7,_,rfl,rfl,rfl,rfl,rfl⟩) rfl rfl rfl rfl rfl (Zbf [7,27] [3] [] rfl rfl (fun _ => Za5 (Zaz rfl rfl rfl rfl rfl rfl rfl sz58)) (.inl ⟨rfl,rfl⟩) rfl rfl rfl rfl rfl (dwc 12 rfl rfl rfl (dw1 13 rfl rfl (goAs rfl rfl (Zac ⟨rfl, ?_⟩))))))));refine dwe (Zad (Zab ?_))
    cases hbk : blockR p l l[k]
    · refine goMv rfl rfl (Zac (Za9 rfl (rfl) (Zap (Zab (goMv rfl rfl (Zaa.go (Zay rfl rfl (wrapS (k + 1) (by omega)) rfl) (goAs rfl rfl (Zac ?_))))))));exact ⟨k + 1,⟨by show k + 1 ≤ _; omega,by rw [List.take_succ_eq_append_getElem hk1]; intro e he; rcases List.mem_append.1 he with he | he; exact hkb e he; rw [List.mem_singleton.1 he]; exact hbk⟩,by show l.length - (k + 1) < l.length - k; omega,Zaq hF [1,2] rfl (rfl) ⟨rfl,rfl,rfl,rfl,trivial⟩⟩
    · refine goMv rfl rfl ?_;refine Zac (ZaU rfl (rfl) (Zad (Zab (Zaa.go (Zas rfl rfl rw58 rfl rfl rfl) (Zaj.go (Zaz rfl rfl rfl rfl rfl rfl rfl sz58) (goAs rfl rfl (Zac (Zao ?_))))))));exact ⟨_,[],[],Zak rfl,rfl,rfl,by rw [hbr _ (findSome_at hk1 hkb hbk)]; rfl,rfl⟩
  · refine ZaL (Zad ?_);have hnn := hbn (findSome_no (by have e : k = l.length := (by have h := h16; omega); rw [e,List.take_length] at hkb; exact hkb));refine Zab (Zaa.go (Zas rfl rfl rw25 rfl rfl rfl) (Zaa.go (Zau (hrm) rfl rfl) ?_));refine goAs rfl rfl (Zac (Zad (Zad (Zab (goAs rfl rfl (Zac (Zam (ZaK (α := Nat) (fun j => ⟨78,[(1, .d (.sl none (l.map intD))),(2,(.ptr 1 0 0)),(4,(.ptr 2 0 0)),(9,(.d (.sl none (ros.map rooD)))),(10,(.d (intD (j : Int))))],[(1,[prbB2 25 p]),(2,[excX exc0])]⟩) (fun j => j ≤ ros.length ∧ ∀ x ∈ ros.take j,overX S p.it l x = none) (fun j => ros.length - j) (0) (⟨Nat.zero_le _,by simp⟩) (Zaq hF [1,2] rfl rfl ⟨rfl,rfl,rfl,rfl,rfl,trivial⟩) ?_))))))));rintro j ⟨hj0,hjb⟩;refine Zad (Zad (Zab (goMv rfl rfl (goMv rfl rfl (Zaa.go (ZaA rfl Tryz.underlying22 rfl) (Zaa.go (ZaI rfl rfl rfl) (Zac (ZaF rfl (fun h36 => ?_) (fun h36 => ?_)))))))))
    · have hj1 : j < ros.length := ZaN h36;refine Zap (Zad (Zam (Zad (Zad ?_))));have hxn := hrn _ (List.getElem_mem hj1);have hovp := over_p p ros[j] l hil hxn hl (fun i hi => hf.x i hi);refine ZaT [[],[],[],[1,2],[1,2,3],[],[0,1,2,3,4,5],[0,1,2,3,4,5,6]] mixed rfl (dws (Zaf [2] [1] rfl rfl (fun _ => Zae (Zas rfl rfl rw25 rfl rfl rfl)) ?_));refine Zaf [9] [] rfl rfl (fun _ => Zae (Zar rfl rfl)) (Zaf [10] [] rfl rfl (fun _ => Zae (Zar rfl rfl)) (Zaf [40,41] [] rfl rfl (fun _ => Zae (Zat (j) rfl rfl (rfl) (getm hj1) Tryz.underlying22 rfl sz67 rfl)) (Zaf [42] [] rfl rfl (fun _ => Zae (ZaC rfl rfl rw67 rfl)) (Zaf [1] [] rfl rfl (fun _ => Zae (Zar rfl rfl)) (dwc 6 rfl rfl rfl (dw1 7 rfl rfl (Zaa.go (Zau (hovp) rfl rfl) (Zac ⟨rfl, ?_⟩))))))));refine dw1 8 rfl rfl (Zaa.go (Zbn rfl rfl rfl) (Zac ⟨rfl, ?_⟩));refine dwe (ZaF rfl (fun h46 => ?_) (fun h46 => ?_))
      · refine ZaL (Zab (goMv rfl rfl (Zaa.go (Zay rfl rfl (wrapS (j + 1) (by omega)) rfl) (goAs rfl rfl (Zac ?_)))));exact ⟨j + 1,⟨by show j + 1 ≤ _; omega,by rw [List.take_succ_eq_append_getElem hj1]; intro e he; rcases List.mem_append.1 he with he | he; exact hjb e he; rw [List.mem_singleton.1 he]; unfold overX; rw [if_neg (by have h := h46; rw [Int.max_def] at h; split at h <;> omega)]⟩,by show ros.length - (j + 1) < ros.length - j; omega,Zaq hF [1,2] rfl (rfl) ⟨rfl,rfl,rfl,rfl,rfl,trivial⟩⟩
      · refine Zap (Zad ?_);have hov : overL p.it ros[j] l < 0 := by have h := h46; rw [Int.max_def] at h; split at h <;> omega
        obtain ⟨Q,hQ⟩ : ∃ Q,qIds S ros[j].r = Q := ⟨_,rfl⟩
        have hqk := hqf ros[j].r;have hqlk := hql ros[j].r;rw [hQ] at hqk hqlk;refine ZaT [[],[],[],[1,2],[1,2,3],[1,2,3,4],[0,1,2,3,4,5],[0,1,2,3,4,5,6]] mixed rfl (dws (Zaf [2] [1] rfl rfl (fun _ => Zae (Zas rfl rfl rw25 rfl rfl rfl)) ?_));refine Zaf [9] [] rfl rfl (fun _ => Zae (Zar rfl rfl)) (Zaf [10] [] rfl rfl (fun _ => Zae (Zar rfl rfl)) (Zaf [48,49] [] rfl rfl (fun _ => Zae (Zat (j) rfl rfl (rfl) (getm hj1) Tryz.underlying22 rfl sz67 rfl)) (Zaf [50] [] rfl rfl (fun _ => Zae (ZaM rfl Zbo rfl rfl rfl)) (Zaf [51] [] rfl rfl (fun _ => Zae (ZaC rfl rfl rw56 rfl)) (dwc 6 rfl rfl rfl (dw1 7 rfl rfl (Zaa.go (Zau (hqk) rfl rfl) (Zac ⟨rfl, ?_⟩))))))));refine dw1 8 rfl rfl (goAs rfl rfl (Zac ⟨rfl, ?_⟩));refine dwe ?_;refine Zad (Zab (goMv rfl rfl (Zaa.go (ZaA rfl Tryz.underlying28 rfl) (Zaa.go (st_sub rfl rfl (IntWalk.i64_in _ (by omega)) rfl) (goAs rfl rfl (Zac (Zam (ZaK (α := Nat) (fun c => ⟨78,[(1, .d (.sl none (l.map intD))),(2,(.ptr 1 0 0)),(4,(.ptr 2 0 0)),(9,(.d (.sl none (ros.map rooD)))),(10,(.d (intD (j : Int)))),(11,(.d (.sl none (Q.map intD)))),(12,(.d (intD ((c : Int) - 1))))],[(1,[prbB2 25 p]),(2,[excX exc0])]⟩) (fun c => c ≤ Q.length ∧ ∀ a ∈ Q.drop c,a ∉ l) (fun c => c) (Q.length) (⟨Nat.le_refl _,by simp⟩) (Zaq hF [1,2] rfl rfl ⟨rfl,rfl,rfl,rfl,rfl,rfl,rfl,trivial⟩) ?_))))))));rintro c ⟨hc0,hca⟩;refine Zad (Zad (Zab (goMv rfl rfl (Zaa.go (st_geq rfl rfl rfl) (Zac (ZaF rfl (fun h58 => ?_) (fun h58 => ?_)))))))
        · obtain ⟨m,rfl⟩ : ∃ m,c = m + 1 := ⟨c - 1,by have h := h58; omega⟩
          refine Zap (Zad (Zam (Zad ?_)));have hm1 : m < Q.length := by omega
          have hmc : ((m + 1 : Nat) : Int) - 1 = (m : Int) := by omega
          rw [hmc];refine Zab (goMv rfl rfl (goMv rfl rfl (goMv rfl rfl (Zaa.go (Zat (m) rfl rfl (rfl) (getm hm1) Tryz.underlying28 rfl sz3 rfl) (Zaa.go (ZaE rfl rfl on3 rfl) (Zaa.go (Zau (has30_p l Q[m] (by omega)) rfl rfl) (Zac (ZaF rfl (fun h66 => ?_) (fun h66 => ?_)))))))))
          · refine Zad (ZaT [[],[],[0,1],[0,1,2],[],[],[4,5],[4,5,6],[4,5,6,7],[0,1,2,3,4,5,6,7,8],[0,1,2,3,4,5,6,7,8,9],[0,1,2,3,4,5,6,7,8,9,10]] mixed rfl (dws (Zaf [11] [] rfl rfl (fun _ => Zae (Zar rfl rfl)) (Zaf [12] [] rfl rfl (fun _ => Zae (Zar rfl rfl)) (Zaf [67,68] [] rfl rfl (fun _ => Zae (Zat (m) rfl rfl (rfl) (getm hm1) Tryz.underlying28 rfl sz3 rfl)) (Zaf [69] [] rfl rfl (fun _ => Zae (ZaE rfl rfl on3 rfl)) ?_))))));refine Zaf [9] [] rfl rfl (fun _ => Zae (Zar rfl rfl)) (Zaf [10] [] rfl rfl (fun _ => Zae (Zar rfl rfl)) (Zaf [71,72] [] rfl rfl (fun _ => Zae (Zat (j) rfl rfl (rfl) (getm hj1) Tryz.underlying22 rfl sz67 rfl)) (Zaf [73] [] rfl rfl (fun _ => Zae (ZaM rfl Zbo rfl rfl rfl)) (Zaf [74] [] rfl rfl (fun _ => Zae (ZaC rfl rfl rw56 rfl)) (dwc 9 rfl rfl rfl (dw1 10 rfl rfl (Zaa.go (Za0 zl58 pl58 rfl rfl rfl) (Zac ⟨rfl, ?_⟩))))))));refine dw1 11 rfl rfl (Zaj.go (Zaz rfl rfl rfl rfl rfl rfl rfl sz58) (Zac ⟨rfl, ?_⟩));refine dw1 12 rfl rfl (goAs rfl rfl (Zac ⟨rfl, ?_⟩));refine dwe (Zao ?_);exact ⟨_,[],[],Zak rfl,rfl,rfl,by rw [hnn,findSome_at hj1 hjb (by unfold overX; rw [if_pos hov,hQ,rev_find hm1 (fun a ha => by simpa using hca a ha) (by simpa using h66)]; rfl)]; rfl,rfl⟩
          · refine Zap (Zab (goMv rfl rfl (Zaa.go (st_sub rfl rfl (IntWalk.i64_in _ (by omega)) rfl) (goAs rfl rfl (Zac ?_)))));exact ⟨m,⟨by omega,by rw [List.drop_eq_getElem_cons hm1]; intro a ha; rcases List.mem_cons.1 ha with ha | ha; rw [ha]; simpa using h66; exact hca a ha⟩,by show m < m + 1; omega,Zaq hF [1,2] rfl (rfl) ⟨rfl,rfl,rfl,rfl,rfl,rfl,rfl,trivial⟩⟩
        · refine ZaL (Zab (goMv rfl rfl (Zaa.go (Zay rfl rfl (wrapS (j + 1) (by omega)) rfl) (goAs rfl rfl (Zac ?_)))));exact ⟨j + 1,⟨by show j + 1 ≤ _; omega,by rw [List.take_succ_eq_append_getElem hj1]; intro e he; rcases List.mem_append.1 he with he | he; exact hjb e he; rw [List.mem_singleton.1 he]; unfold overX; rw [if_pos hov,hQ,Zcd (fun a ha => by have h0 : c = 0 := (by have h := h58; omega); subst h0; rw [List.drop_zero] at hca; simpa using hca a (List.mem_reverse.1 ha))]; rfl⟩,by show ros.length - (j + 1) < ros.length - j; omega,Zaq hF [1,2] rfl (rfl) ⟨rfl,rfl,rfl,rfl,rfl,trivial⟩⟩
    · refine ZaL (Zad (Zab (Zaa.go (Za0 zl58 pl58 rfl rfl rfl) (Zaj.go (Zaz rfl rfl rfl rfl rfl rfl rfl sz58) (goAs rfl rfl (Zac (Zao ?_)))))));exact ⟨_,[],[],Zak rfl,rfl,rfl,by rw [hnn,findSome_no (by have e : j = ros.length := (by have h := h36; omega); rw [e,List.take_length] at hjb; exact hjb)]; rfl,rfl⟩
def runR (p : Prb) : Nat → List Int → List Exc × List Int
  | 0,l => ([],l)
  | f + 1,l => match nextR p l with
    | none => ([],l)
    | some e => (e :: (runR p f (without l e.id)).1,(runR p f (without l e.id)).2)
def explR (p : Prb) : List Exc × List Int := runR p (sortO p.it).length ((sortO p.it).map Itm.id)
theorem runR_none {p : Prb} {f : Nat} {l : List Int} (h : nextR p l = none) : runR p f l = ([],l) := by
  cases f with
  | zero => rfl
  | succ f => unfold runR; rw [h]
theorem runR_some {p : Prb} {f : Nat} {l : List Int} {e : Exc} (h : nextR p l = some e) : runR p (f + 1) l = (e :: (runR p f (without l e.id)).1,(runR p f (without l e.id)).2) := by
  show (match nextR p l with | none => _ | some e => _) = _;rw [h]
theorem blockR_id {p : Prb} {l : List Int} {id : Int} {e : Exc} (h : blockR p l id = some e) : e.id = id := by
  unfold blockR at h
  split at h
  · rename_i e' h1
    injection h with h; subst h
    obtain ⟨x,_,h2⟩ := List.exists_of_findSome?_eq_some h1;unfold blkR at h2
    split at h2
    · obtain ⟨a,_,rfl⟩ := Option.map_eq_some_iff.1 h2; rfl
    · cases h2
  · obtain ⟨a,_,rfl⟩ := Option.map_eq_some_iff.1 h; rfl
theorem nextR_mem {p : Prb} {l : List Int} {e : Exc} (h : nextR p l = some e) : e.id ∈ l := by
  unfold nextR at h
  split at h
  · rename_i e' h1
    injection h with h; subst h
    obtain ⟨x,hx,h2⟩ := List.exists_of_findSome?_eq_some h1;rw [blockR_id h2]; exact hx
  · obtain ⟨x,_,h2⟩ := List.exists_of_findSome?_eq_some h;unfold overX at h2
    split at h2
    · obtain ⟨a,ha,rfl⟩ := Option.map_eq_some_iff.1 h2;have := List.find?_some ha
      simpa using this
    · cases h2
theorem without_len {l : List Int} {x : Int} (h : x ∈ l) : (without l x).length + 1 ≤ l.length := by
  unfold without
  have : (l.filter fun y => decide (y ≠ x)).length < l.length := by
    rw [List.length_filter_lt_length_iff_exists];exact ⟨x,h,by simp⟩
  omega
theorem without_mem {l : List Int} {x y : Int} (h : y ∈ without l x) : y ∈ l := (List.mem_filter.1 h).1
set_option maxHeartbeats 1000000 in
theorem explain30_p (p : Prb) (hf : FewP p) (hE : prbE p = 0) : PCalls Tryz.prog 22 [.d (prbD p)] (.tup [.sl none ((explR p).2.map intD), .sl none ((explR p).1.map excD)]) := by
  have hil := hf.i;have hor := order30_p p (by omega);have hnl := fun (l : List Int) (h1 : l.length ≤ 1000) (h2 : ∀ id ∈ l,id ∈ p.it.map Itm.id) => next30_p p hf hE l h1 h2;have hsl := ZbP p.it;have hsm : ∀ id ∈ (sortO p.it).map Itm.id,id ∈ p.it.map Itm.id := fun id h => ((Zbe p.it).map Itm.id).mem_iff.1 h;unfold explR
  obtain ⟨S,hS⟩ : ∃ S,sortO p.it = S := ⟨_,rfl⟩
  rw [hS] at hor hsl hsm ⊢;have hn0 := hnl (S.map Itm.id) (by rw [List.length_map]; omega) hsm;refine ZaB Tryz.func22 rfl rfl Tryz.ntmps22 rfl rfl rfl fun F hF => (Zad (Zab (Zaj.go (ZaS 1 rfl rfl rfl rfl rfl rfl rfl) (goAs rfl rfl (goAs rfl rfl ?_)))));refine Zac (Zad (Zab (Zaa.go (Zas rfl rfl rw25 rfl rfl rfl) (Zaa.go (Zau (hor) rfl rfl) (goAs rfl rfl (Zac (Zad (Zab ?_))))))));refine goAs rfl rfl (Zac (Zad (Zad (Zab (Zaa.go (Zas rfl rfl rw25 rfl rfl rfl) (goMv rfl rfl (Zaa.go (Zau (hn0) rfl rfl) (goMv rfl rfl ?_))))))));refine Zaa.go (ZaR rfl rfl rfl) (Zaa.go (ZaR rfl rfl rfl) (Zaj.go (ZaQ 2 zl58 rfl rfl rfl rfl) (Zaj.go (Zaz rfl rfl rfl rfl rfl rfl rfl sz58) (goAs rfl rfl (Zac (Zam (a_adopt 5 900 sl45 rfl rfl rfl rfl (ZaK (α := List Int × List Exc × Nat × Option Exc) (fun q => ⟨34,[(1,(.ptr 1 0 0)),(4,(.d (.sl none (q.1.map intD)))),(5,(.own 900 0 q.2.1.length)),(6,(.ptr 2 0 0)),(7,(.d (boolD q.2.2.2.isSome)))],[(1,[prbB2 25 p]),(2,[excX (q.2.2.2.getD exc0)]),(900,[.rowD 58 9 (q.2.1.map excD)])]⟩) (fun q => nextR p q.1 = q.2.2.2 ∧ q.1.length ≤ q.2.2.1 ∧ q.2.1.length + q.2.2.1 ≤ 30 ∧ (∀ id ∈ q.1,id ∈ p.it.map Itm.id) ∧ q.2.1 ++ (runR p q.2.2.1 q.1).1 = (runR p S.length (S.map Itm.id)).1 ∧ (runR p q.2.2.1 q.1).2 = (runR p S.length (S.map Itm.id)).2) (fun q => q.2.2.1) ((S.map Itm.id,[],S.length,nextR p (S.map Itm.id))) (⟨rfl,by show (S.map Itm.id).length ≤ S.length; rw [List.length_map]; exact Nat.le_refl _,by show 0 + S.length ≤ 30; omega,hsm,rfl,rfl⟩) (Zaq hF [1,2,900] rfl rfl ⟨rfl,rfl,rfl,rfl,rfl,trivial⟩) ?_))))))));rintro ⟨l,acc,f,o⟩ ⟨ho,hlf,hal,hid,hr1,hr2⟩;dsimp only at ho hlf hal hid hr1 hr2 ⊢;refine Zad (Zad (Zab (goMv rfl rfl (Zac (Zbm rfl (fun h16 => ?_) (fun h16 => ?_))))))
  · obtain ⟨e,rfl⟩ : ∃ e,o = some e := Option.isSome_iff_exists.1 (by simpa using h16);refine Zap (Zad (Zam ?_));have hwl := without_len (nextR_mem ho)
    obtain ⟨f2,rfl⟩ : ∃ f2,f = f2 + 1 := ⟨f - 1,by omega⟩
    have hrs := runR_some (f := f2) ho;have hnn := hnl (without l e.id) (by omega) (fun id h => hid id (without_mem h));refine ZaT [[],[],[1],[0,1,2],[],[],[5],[0,1,2,3,4,5,6],[0,1,2,3,4,5,6,7],[0,1,2,3,4,5,6,7,8]] mixed rfl (dws (Zaf [4] [] rfl rfl (fun _ => Zae (Zar rfl rfl)) (Zaf [6] [] rfl rfl (fun _ => Zae (Zag rfl fi58_0 rfl rfl rfl)) ?_)));refine Zaf [24] [2] rfl rfl (fun _ => Zae (Zah rfl rfl rfl on3 rfl)) (Zaf [23,25] [] rfl rfl (fun _ => Zae (Zau (without_p l e.id (by omega)) rfl rfl)) (Zaf [5] [] rfl rfl (fun _ => Zae (Zar rfl rfl)) (Zaf [6] [2] rfl rfl (fun _ => Zae (Zas rfl rfl rw58 rfl rfl rfl)) (Zbf [28] [5] [(29,_)] rfl rfl (fun _ => Za5 (ZaD 5 sl45 rfl rfl rfl rfl rfl rfl rfl rfl)) (.inr ⟨29,_,rfl,rfl,rfl,rfl,rfl⟩) rfl rfl rfl rfl rfl (dwc 7 rfl rfl rfl (dw1 8 rfl rfl (Zaj.go (Zbc (acc) ([e]) rfl rfl rfl rfl rfl rfl rfl rfl sl45 (by simp only [List.length_singleton]; omega) rfl rfl rfl rfl) (Zac ⟨rfl, ?_⟩))))))));refine dw1 9 rfl rfl (goAs rfl rfl (Zac ⟨rfl, ?_⟩));refine dw1 10 rfl rfl (goAs rfl rfl (Zac ⟨rfl, ?_⟩));refine dwe (Zad (Zad (Zab (Zaa.go (Zas rfl rfl rw58 rfl rfl rfl) (Zac ?_)))));refine a_only [1,900] hF rfl rfl ?_;refine Zab (Zaj.go (ZaQ 2 zl58 rfl rfl rfl rfl) (Zaj.go (Zaz rfl rfl rfl rfl rfl rfl rfl sz58) (Zac (Zab ?_))));refine Zaa.go (Zas rfl rfl rw25 rfl rfl rfl) (goMv rfl rfl (Zaa.go (Zau (hnn) rfl rfl) (goMv rfl rfl (Zaa.go (ZaR rfl rfl rfl) (Zaa.go (ZaR rfl rfl rfl) (Zaj.go (Zaz rfl rfl rfl rfl rfl rfl rfl sz58) (goAs rfl rfl (Zac ?_))))))));exact ⟨(without l e.id,acc ++ [e],f2,nextR p (without l e.id)),⟨rfl,by show (without l e.id).length ≤ f2; omega,by show (acc ++ [e]).length + f2 ≤ 30; rw [List.length_append]; simp; omega,fun id h => hid id (without_mem h),by show (acc ++ [e]) ++ (runR p f2 (without l e.id)).1 = _; rw [List.append_assoc, ← hr1,hrs]; rfl,by show (runR p f2 (without l e.id)).2 = _; rw [← hr2,hrs]⟩,by show f2 < f2 + 1; omega,Zaq hF [1,2,900] rfl (rfl) ⟨rfl,rfl,rfl,rfl,rfl,trivial⟩⟩
  · refine ZaL (Zad ?_);have hon : nextR p l = none := by rw [ho]; simpa using h16
    rw [runR_none hon,List.append_nil] at hr1;rw [runR_none hon] at hr2;refine ZbH (emb := excD) 5 900 acc rfl rfl rfl rfl rfl rfl rfl (Zab (goMv rfl rfl (goMv rfl rfl (goAs rfl rfl (goAs rfl rfl (Zac (Zao ?_)))))));exact ⟨_,[],[],Zak rfl,rfl,rfl,by rw [← hr1, ← hr2],rfl⟩
theorem find_congr {α : Type} {p q : α → Bool} : ∀ {l : List α},(∀ x ∈ l,p x = q x) → l.find? p = l.find? q
  | [],_ => rfl
  | a :: l,h => by
    rw [List.find?_cons,List.find?_cons,h a (List.mem_cons_self ..),find_congr fun x hx => h x (List.mem_cons_of_mem _ hx)]
theorem fs_congr {α β : Type} {f g : α → Option β} : ∀ {l : List α},(∀ x ∈ l,f x = g x) → l.findSome? f = l.findSome? g
  | [],_ => rfl
  | a :: l,h => by
    rw [List.findSome?_cons,List.findSome?_cons,h a (List.mem_cons_self ..),fs_congr fun x hx => h x (List.mem_cons_of_mem _ hx)]
theorem fs_filter {α β : Type} {f : α → Option β} {p : α → Bool} : ∀ {l : List α},(∀ x ∈ l,p x = false → f x = none) → (l.filter p).findSome? f = l.findSome? f
  | [],_ => rfl
  | a :: l,h => by
    have ih := fs_filter (f := f) (p := p) (l := l) fun x hx => h x (List.mem_cons_of_mem _ hx);rw [List.filter_cons]
    cases hp : p a with
    | true => rw [if_pos rfl,List.findSome?_cons,List.findSome?_cons,ih]
    | false => rw [if_neg (by simp),ih,List.findSome?_cons,h a (List.mem_cons_self ..) hp]
theorem find_map_fs {α β γ : Type} {g : α → β} {p : β → Bool} {h : β → γ} : ∀ {l : List α},((l.map g).find? p).map h = l.findSome? fun x => if p (g x) = true then some (h (g x)) else none
  | [] => rfl
  | a :: l => by
    rw [List.map_cons,List.find?_cons,List.findSome?_cons]
    cases hp : p (g a) with
    | true => rw [if_pos rfl]; rfl
    | false => rw [if_neg (by simp), ← find_map_fs (l := l)]
theorem amt_dlt {x : Itm} (h : checkE x = 0) {r : Rsc} (hr : validE r = 0) : amt (dltS x) r = dltE x r := by
  have h1 : dltS x = dltC (ctr x) := if_pos h;have h2 : dltE x r = ctrSum (ctr x) r := if_pos ⟨h,hr⟩;rw [h1,h2]
  by_cases h0 : ctrSum (ctr x) r = 0
  · rw [h0];refine mget_not fun hm => ?_;obtain ⟨d,hd,e⟩ := List.mem_map.1 hm;obtain ⟨h3,h4⟩ := (dltC_mem _ _).1 hd;have h5 := (sumL_mem (ctr x) d.1 d.2).1 h3;rw [e,h0] at h5;exact h4 h5.2
  · refine ZbT (by rw [← h1]; exact Zb2 x) ((dltC_mem _ _).2 ⟨(sumL_mem _ _ _).2 ⟨?_,rfl⟩,h0⟩)
    by_cases hm : r ∈ (ctr x).map Prod.fst
    · exact hm
    · exact absurd (ctrSum_none hm) h0
theorem rooms_valid30 {l : List Roo} (h : roomsE l = 0) : ∀ x ∈ l,validE x.r = 0 := fun x hx => by
  have h0 := ZbL.1 h;obtain ⟨j,hj,rfl⟩ := List.getElem_of_mem hx;have := h0 j (List.mem_range.2 hj);unfold rErr at this;rw [ZaH roo0 hj] at this
  split at this
  · contradiction
  · rename_i hv
    exact Classical.byContradiction fun h => hv h
theorem items_valid30 {l : List Itm} (h : itemsE l = 0) : ∀ x ∈ l,checkE x = 0 := fun x hx => by
  have h0 := ZbL.1 h;obtain ⟨j,hj,rfl⟩ := List.getElem_of_mem hx;have := h0 j (List.mem_range.2 hj);unfold iErr at this;rw [ZaH itm0 hj] at this
  split at this
  · contradiction
  · rename_i hv
    exact Classical.byContradiction fun h => hv h
theorem q_ids {its : List Itm} (hv : ∀ x ∈ its,checkE x = 0) {r : Rsc} (hr : validE r = 0) : qIds its r = (negQ (its.map dltS) r).map fun i => (its.getD i itm0).id := by
  unfold qIds negQ
  have e : its = (List.range its.length).map fun i => its.getD i itm0 := by
    apply List.ext_getElem (by simp)
    intro i h1 h2;simp only [List.getElem_map,List.getElem_range];rw [ZaH itm0 h1]
  conv => lhs; rw [e]
  rw [List.filter_map,List.map_map,List.length_map]
  congr 1
  refine List.filter_congr fun i hi => ?_;have hi' := List.mem_range.1 hi;show decide (dltE (its.getD i itm0) r < 0) = _;rw [ZaH [] (by simpa using hi'),List.getElem_map,ZaH itm0 hi',amt_dlt (hv _ (List.getElem_mem hi')) hr]
theorem on_mem {its : List Itm} (hn : (its.map Itm.id).Nodup) (on : Nat → Bool) {i : Nat} (hi : i < its.length) : (its.getD i itm0).id ∈ onIds its on its.length ↔ on i = true := by
  unfold onIds;rw [List.mem_map]
  constructor
  · rintro ⟨j,hj,e⟩;obtain ⟨h1,h2⟩ := List.mem_filter.1 hj;have hj' := List.mem_range.1 h1;rw [ZaH itm0 hi,ZaH itm0 hj'] at e
    have : j = i := by
      have h3 : (its.map Itm.id)[j]'(by simpa using hj') = (its.map Itm.id)[i]'(by simpa using hi) := by
        rw [List.getElem_map,List.getElem_map]; exact e
      exact (List.getElem_inj hn).1 h3
    rw [← this]; exact h2
  · intro h;exact ⟨i,List.mem_filter.2 ⟨List.mem_range.2 hi,h⟩,rfl⟩
theorem psum {l m : List Int} (h : l.Perm m) : l.sum = m.sum := by
  induction h with
  | nil => rfl
  | cons x _ ih => rw [List.sum_cons,List.sum_cons,ih]
  | swap x y l => simp only [List.sum_cons]; omega
  | trans _ _ h1 h2 => rw [h1,h2]
theorem sum_flt {α : Type} {p : α → Bool} {f : α → Int} : ∀ {l : List α},((l.filter p).map f).sum = (l.map fun i => if p i = true then f i else 0).sum
  | [] => rfl
  | a :: l => by
    rw [List.filter_cons,List.map_cons,List.sum_cons, ← sum_flt (l := l)]
    cases hp : p a with
    | true => rw [if_pos rfl,if_pos rfl,List.map_cons,List.sum_cons]
    | false => rw [if_neg (by simp),if_neg (by simp),Int.zero_add]
theorem S_getN {ros : List Roo} {its : List Itm} {on : Nat → Bool} {i : Nat} (h : i < its.length) : (netS ros its on).nd.getD i nd0 = ndS (ros.map Roo.r) its on i := by
  show ((List.range its.length).map _).getD i nd0 = _;rw [ZaH nd0 (by simpa using h),List.getElem_map,List.getElem_range]
theorem negQ_lt {ds : List (List (Rsc × Int))} {r : Rsc} {i : Nat} (h : i ∈ negQ ds r) : i < ds.length := List.mem_range.1 (List.mem_filter.1 h).1
theorem its_range (its : List Itm) : its = (List.range its.length).map fun i => its.getD i itm0 := by
  apply List.ext_getElem (by simp)
  intro i h1 h2;simp only [List.getElem_map,List.getElem_range];rw [ZaH itm0 h1]
structure PV (p : Prb) (ros : List Roo) (its : List Itm) : Prop where
  e : prbE p = 0
  f : FewP p
  s : SmO ros its
  hr : rosS p = ros
  hi : sortO p.it = its
  v : ∀ x ∈ its,checkE x = 0
  w : ∀ x ∈ ros,validE x.r = 0
  up : ros.Pairwise fun a b => cmpR a.r b.r < 0
theorem pv_of {p : Prb} (hE : prbE p = 0) (hf : FewP p) : PV p (rosS p) (sortO p.it) := by
  have h1 : ordP p = sortO p.it := if_pos hE;have hs := sml_P hf hE;rw [h1] at hs;refine ⟨hE,hf,hs,rfl,rfl,fun x hx => items_valid30 (ZbO hE).2.1 x ((Zbe p.it).mem_iff.1 hx),fun x hx => rooms_valid30 (ZbO hE).1 x ((rosS_perm p).mem_iff.1 hx), ?_⟩;have hn := hs.r;rw [List.Nodup,List.pairwise_map] at hn;refine ((rosS_sorted p).and hn).imp fun {a b} ⟨g1,g2⟩ => ?_;have h1 := ZbK.anti a.r b.r;have h2 : cmpR a.r b.r ≠ 0 := fun e => g2 (cmpR_zero.1 e);omega
theorem over_sum {p : Prb} {ros : List Roo} {its : List Itm} (h : PV p ros its) (on : Nat → Bool) {x : Roo} (hx : x ∈ ros) : overL p.it x (onIds its on its.length) = max x.n 0 + sumS (its.map dltS) on x.r := by
  unfold overL
  congr 1
  have hp : p.it.Perm its := by rw [← h.hi]; exact (Zbe p.it).symm
  rw [psum ((hp.filter _).map _)]
  obtain ⟨l,hl⟩ : ∃ l,onIds its on its.length = l := ⟨_,rfl⟩
  rw [hl]
  have e : ((its.filter fun i => decide (i.id ∈ l)).map fun i => dltE i x.r).sum = ((List.range its.length).map fun i => if decide ((its.getD i itm0).id ∈ l) = true then dltE (its.getD i itm0) x.r else 0).sum := by
    conv => lhs; rw [its_range its]
    rw [List.filter_map,List.map_map,sum_flt]; rfl
  have hlen : (its.map dltS).length = its.length := by simp
  rw [e];unfold sumS;rw [hlen]
  congr 1
  refine List.map_congr_left fun i hi => ?_;have hi' := List.mem_range.1 hi;have hon := on_mem h.s.i on hi';rw [hl] at hon;have hv := amt_dlt (h.v (its.getD i itm0) (by rw [ZaH itm0 hi']; exact List.getElem_mem hi')) (h.w x hx);have hg : (its.map dltS).getD i [] = dltS (its.getD i itm0) := by rw [ZaH [] (by simpa using hi'),ZaH itm0 hi',List.getElem_map]
  rw [hg,hv]
  by_cases ho : on i = true
  · rw [if_pos ho,if_pos (decide_eq_true (hon.2 ho))]
  · rw [if_neg ho,if_neg (by simpa using fun h => ho (hon.1 h))]
theorem over_eq {p : Prb} {ros : List Roo} {its : List Itm} (h : PV p ros its) (on : Nat → Bool) {x : Roo} (hx : x ∈ ros) : overX its p.it (onIds its on its.length) x = poX (netS ros its on) (poS (its.map dltS) on x) := by
  unfold overX poX;rw [over_sum h on hx]
  have hov : (ovP (poS (its.map dltS) on x) (poS (its.map dltS) on x).sum = true) ↔ max x.n 0 + sumS (its.map dltS) on x.r < 0 := by
    unfold ovP aftP poS;rw [decide_eq_true_eq];dsimp only;have : (0 : Int) ≤ max x.n 0 := Int.le_max_right _ _;omega
  by_cases hc : max x.n 0 + sumS (its.map dltS) on x.r < 0
  · rw [if_pos hc,if_pos (hov.2 hc),q_ids h.v (h.w x hx), ← List.map_reverse,List.find?_map];show Option.map _ (Option.map _ _) = Option.map _ ((negQ (its.map dltS) x.r).reverse.find? _)
    have e : (negQ (its.map dltS) x.r).reverse.find? ((fun a => decide (a ∈ onIds its on its.length)) ∘ fun i => (its.getD i itm0).id) = (negQ (its.map dltS) x.r).reverse.find? (onN (netS ros its on)) := find_congr fun i hi => by
      have hl := negQ_lt (List.mem_reverse.1 hi);rw [List.length_map] at hl;show decide ((its.getD i itm0).id ∈ _) = onN _ i;unfold onN;rw [S_getN hl];show _ = on i;have := on_mem h.s.i on hl
      cases ho : on i with
      | true => exact decide_eq_true (this.2 ho)
      | false => exact decide_eq_false fun h => by rw [this.1 h] at ho; cases ho
    rw [e]
    cases hf : (negQ (its.map dltS) x.r).reverse.find? (onN (netS ros its on)) with
    | none => rfl
    | some i =>
      have hl := negQ_lt (List.mem_reverse.1 (List.mem_of_find?_eq_some hf));rw [List.length_map] at hl;show some _ = some _
      congr 1
      have hg : (netS ros its on).nd.getD i nd0 = ndS (ros.map Roo.r) its on i := S_getN hl;show Exc.mk (its.getD i itm0).id 0 x.r (-1) = Exc.mk ((netS ros its on).nd.getD i nd0).it.id 0 x.r (-1);rw [hg]; rfl
  · rw [if_neg hc,if_neg fun h => hc (hov.1 h)]
theorem find_idx {α : Type} (p : α → Bool) : ∀ (A : List α),A.find? p = A[A.findIdx p]?
  | [] => rfl
  | a :: A => by
    rw [List.find?_cons,List.findIdx_cons]
    cases hp : p a with
    | true => rfl
    | false => rw [find_idx p A]; rfl
theorem dlt_ris (X : Itm) : (dltS X).Pairwise fun a b => cmpR a.1 b.1 < 0 := by
  unfold dltS
  split
  · exact dltC_ris (ctr X)
  · exact List.Pairwise.nil
theorem pl_eq {p : Prb} {ros : List Roo} {its : List Itm} (h : PV p ros its) (ds : List (List (Rsc × Int))) (X : Itm) : plK (ros.map Roo.r) ds (dltS X) = (ros.filter fun x => decide (amt (dltS X) x.r < 0)).map fun x => ((ros.map Roo.r).idxOf x.r,(negQ ds x.r).length) := by
  have key : ((dltS X).filter fun d => decide (d.1 ∈ ros.map Roo.r) && decide (d.2 < 0)).map Prod.fst = (ros.filter fun x => decide (amt (dltS X) x.r < 0)).map Roo.r := by
    refine strict_one (R := fun a b => cmpR a b < 0) (fun x => by rw [ZbK.refl]; omega) (fun x y z => ZbK.trans x y z) ?_ ?_ fun r => ?_
    · rw [List.pairwise_map]; exact List.Pairwise.filter _ (dlt_ris X)
    · rw [List.pairwise_map]; exact List.Pairwise.filter _ h.up
    · constructor
      · intro hr;obtain ⟨d,hd,rfl⟩ := List.mem_map.1 hr;obtain ⟨h1,h2⟩ := List.mem_filter.1 hd;rw [Bool.and_eq_true,decide_eq_true_eq,decide_eq_true_eq] at h2;obtain ⟨x,hx,e⟩ := List.mem_map.1 h2.1;refine List.mem_map.2 ⟨x,List.mem_filter.2 ⟨hx, ?_⟩,e⟩;have : amt (dltS X) d.1 = d.2 := ZbT (Zb2 X) h1;rw [e,this]; exact decide_eq_true h2.2
      · intro hr;obtain ⟨x,hx,rfl⟩ := List.mem_map.1 hr;obtain ⟨h1,h2⟩ := List.mem_filter.1 hx;have h2 := of_decide_eq_true h2
        have hk : x.r ∈ (dltS X).map Prod.fst := Classical.byContradiction fun hn => by
          have : amt (dltS X) x.r = 0 := mget_not hn;omega
        obtain ⟨d,hd,e⟩ := List.mem_map.1 hk;have : amt (dltS X) d.1 = d.2 := ZbT (Zb2 X) hd;rw [e] at this;refine List.mem_map.2 ⟨d,List.mem_filter.2 ⟨hd, ?_⟩,e⟩;rw [Bool.and_eq_true,decide_eq_true_eq,decide_eq_true_eq];exact ⟨by rw [e]; exact List.mem_map.2 ⟨x,h1,rfl⟩,by omega⟩
  have e1 : plK (ros.map Roo.r) ds (dltS X) = (((dltS X).filter fun d => decide (d.1 ∈ ros.map Roo.r) && decide (d.2 < 0)).map Prod.fst).map fun r => ((ros.map Roo.r).idxOf r,(negQ ds r).length) := by
    unfold plK; rw [List.map_map]; rfl
  rw [e1,key,List.map_map]; rfl
theorem po_at {p : Prb} {ros : List Roo} {its : List Itm} (h : PV p ros its) (on : Nat → Bool) {x : Roo} (hx : x ∈ ros) : (netS ros its on).po.getD ((ros.map Roo.r).idxOf x.r) po0 = poS (its.map dltS) on x := by
  obtain ⟨j,hj,rfl⟩ := List.getElem_of_mem hx;have hj' : j < (ros.map Roo.r).length := by simpa using hj
  have e : (ros.map Roo.r).idxOf ros[j].r = j := by
    have := idx_nodup h.s.r hj';rw [List.getElem_map] at this; exact this
  rw [e];show (ros.map _).getD j po0 = _;rw [ZaH po0 (by simpa using hj),List.getElem_map]
theorem id_inj {its : List Itm} (hn : (its.map Itm.id).Nodup) {i j : Nat} (hi : i < its.length) (hj : j < its.length) (h : (its.getD i itm0).id = (its.getD j itm0).id) : i = j := by
  rw [ZaH itm0 hi,ZaH itm0 hj] at h
  have h3 : (its.map Itm.id)[i]'(by simpa using hi) = (its.map Itm.id)[j]'(by simpa using hj) := by
    rw [List.getElem_map,List.getElem_map]; exact h
  exact (List.getElem_inj hn).1 h3
theorem blkR_eq {p : Prb} {ros : List Roo} {its : List Itm} (h : PV p ros its) (on : Nat → Bool) {i : Nat} (hi : i < its.length) {x : Roo} (hx : x ∈ ros) :
    blkR its (onIds its on its.length) (its.getD i itm0).id x = if amt (dltS (its.getD i itm0)) x.r < 0 then (if badP (netS ros its on) ((ros.map Roo.r).idxOf x.r,(negQ ((its.map dltS).take i) x.r).length) = true then some (excQ (netS ros its on) (ndS (ros.map Roo.r) its on i) ((ros.map Roo.r).idxOf x.r,(negQ ((its.map dltS).take i) x.r).length)) else none) else none := by
  have hdi : i < (its.map dltS).length := by simpa using hi
  have hg : (its.map dltS).getD i [] = dltS (its.getD i itm0) := by rw [ZaH [] hdi,ZaH itm0 hi,List.getElem_map]
  have hq := q_ids h.v (h.w x hx);obtain ⟨B,c1,c2,c3⟩ := negQ_cut hdi x.r;rw [hg] at c1
  have hin : (its.getD i itm0).id ∈ qIds its x.r ↔ amt (dltS (its.getD i itm0)) x.r < 0 := by
    rw [hq,List.mem_map]
    constructor
    · rintro ⟨j,hj,e⟩;have hjl := negQ_lt hj;rw [List.length_map] at hjl;have := id_inj h.s.i hjl hi e;subst this;have := (List.mem_filter.1 hj).2;rw [hg] at this; exact of_decide_eq_true this
    · intro ha;refine ⟨i, ?_,rfl⟩;rw [c1,if_pos ha]; simp
  unfold blkR
  by_cases ha : amt (dltS (its.getD i itm0)) x.r < 0
  · rw [if_pos (hin.2 ha),if_pos ha];rw [if_pos ha] at c1
    obtain ⟨A,hA⟩ : ∃ A,negQ ((its.map dltS).take i) x.r = A := ⟨_,rfl⟩
    rw [hA] at c1 c2 ⊢
    have hQ : qIds its x.r = A.map (fun j => (its.getD j itm0).id) ++ ((its.getD i itm0).id :: B.map fun j => (its.getD j itm0).id) := by
      rw [hq,c1,List.map_append,List.singleton_append,List.map_cons]
    have hAl : (A.map fun j => (its.getD j itm0).id).length = A.length := List.length_map _;have hlt : A.length < (qIds its x.r).length := by rw [hQ,List.length_append,hAl]; simp
    have htk : (qIds its x.r).take A.length = A.map fun j => (its.getD j itm0).id := by rw [hQ, ← hAl,List.take_left']; rfl
    have hat : (qIds its x.r)[A.length] = (its.getD i itm0).id := by
      have : (qIds its x.r)[A.length]? = some (its.getD i itm0).id := by
        rw [hQ,List.getElem?_append_right (by omega),hAl,Nat.sub_self]; rfl
      rw [List.getElem?_eq_getElem hlt] at this; exact Option.some.inj this
    rw [tw_take hlt (fun a ha => by
      rw [htk] at ha;obtain ⟨j,hj,rfl⟩ := List.mem_map.1 ha;have := c2 j hj
      exact decide_eq_true fun e => by have := id_inj h.s.i (by omega) hi e; omega) (by rw [hat]; simp),htk,List.find?_map]
    have e1 : A.find? ((fun a => decide (a ∉ onIds its on its.length)) ∘ fun j => (its.getD j itm0).id) = A.find? fun j => !on j := find_congr fun j hj => by
      have hjl : j < its.length := by have := c2 j hj; omega
      have := on_mem h.s.i on hjl;show decide ((its.getD j itm0).id ∉ _) = !on j
      cases ho : on j with
      | true => exact decide_eq_false fun hn => hn (this.2 ho)
      | false => exact decide_eq_true fun hn => by rw [this.1 hn] at ho; cases ho
    rw [e1,find_idx]
    have hmi : ((netS ros its on).po.getD ((ros.map Roo.r).idxOf x.r) po0).mi = if A.findIdx (fun j => !on j) < A.length then A.findIdx fun j => !on j else (([i] : List Nat) ++ B).findIdx (fun j => !on j) + A.length := by
      rw [po_at h on hx];show miS on (negQ (its.map dltS) x.r) = _;unfold miS;rw [c1,fidx_app]
    have hpq : ((netS ros its on).po.getD ((ros.map Roo.r).idxOf x.r) po0).q = negQ (its.map dltS) x.r := by rw [po_at h on hx]; rfl
    have hpr : ((netS ros its on).po.getD ((ros.map Roo.r).idxOf x.r) po0).r = x.r := by rw [po_at h on hx]; rfl
    unfold badP excQ;dsimp only;rw [hmi,hpq,hpr]
    by_cases hm : A.findIdx (fun j => !on j) < A.length
    · rw [if_pos hm,if_pos (decide_eq_true hm),List.getElem?_eq_getElem hm];have hjm := List.getElem_mem hm;have hjl : A[A.findIdx fun j => !on j] < its.length := by have := c2 _ hjm; omega
      have e2 : (negQ (its.map dltS) x.r).getD (A.findIdx fun j => !on j) 0 = A[A.findIdx fun j => !on j] := by
        rw [c1,List.getD_eq_getElem?_getD,List.getElem?_append_left hm,List.getElem?_eq_getElem hm]; rfl
      rw [e2,S_getN hjl]; rfl
    · rw [if_neg hm,if_neg (by simp),List.getElem?_eq_none (by omega)]; rfl
  · rw [if_neg (fun hh => ha (hin.1 hh)),if_neg ha]
theorem block_eq {p : Prb} {ros : List Roo} {its : List Itm} (h : PV p ros its) (on : Nat → Bool) {i : Nat} (hi : i < its.length) : blockR p (onIds its on its.length) (its.getD i itm0).id = inadm (netS ros its on) (ndS (ros.map Roo.r) its on i) := by
  have hXm : its.getD i itm0 ∈ its := by rw [ZaH itm0 hi]; exact List.getElem_mem hi
  have hXp : its.getD i itm0 ∈ p.it := by rw [← h.hi] at hXm; rw [← h.hi]; exact (Zbe p.it).mem_iff.1 hXm
  have e1 : ros.findSome? (blkR its (onIds its on its.length) (its.getD i itm0).id) = ((plK (ros.map Roo.r) ((its.map dltS).take i) (dltS (its.getD i itm0))).find? (badP (netS ros its on))).map (excQ (netS ros its on) (ndS (ros.map Roo.r) its on i)) := by
    rw [pl_eq h,find_map_fs, ← fs_filter (p := fun x => decide (amt (dltS (its.getD i itm0)) x.r < 0)) (fun x hx hp => by rw [blkR_eq h on hi hx,if_neg (of_decide_eq_false hp)])];refine fs_congr fun x hx => ?_;obtain ⟨h1,h2⟩ := List.mem_filter.1 hx;rw [blkR_eq h on hi h1,if_pos (of_decide_eq_true h2)]
  have e2 : itmOf p (its.getD i itm0).id = its.getD i itm0 := by
    obtain ⟨hk,_,h2,h3⟩ := itmOf_at (p := p) (id := (its.getD i itm0).id) (List.mem_map.2 ⟨_,hXp,rfl⟩);refine ids_inj (items_ids (ZbO h.e).2.1) (by rw [h2]; exact List.getElem_mem hk) hXp h3
  have e3 : (its.getD i itm0).af.find? (fun a => decide (a ∉ onIds its on its.length)) = (its.getD i itm0).af.find? (offOf (netS ros its on)) := find_congr fun a ha => by
    have hm := h.s.a _ hXm a ha;have hj := List.idxOf_lt_length_of_mem hm;have hja := List.getElem_idxOf hj;unfold offOf;rw [S_ids]
    generalize (its.map Itm.id).idxOf a = j at hj hja ⊢
    have hj' : j < its.length := by simpa using hj
    rw [List.getElem_map] at hja;rw [S_getN hj'];show _ = !on j;have := on_mem h.s.i on hj';rw [ZaH itm0 hj',hja] at this
    cases ho : on j with
    | true => exact decide_eq_false fun hn => hn (this.2 ho)
    | false => exact decide_eq_true fun hn => by rw [this.1 hn] at ho; cases ho
  unfold blockR;rw [h.hr,h.hi,e1,e2,e3];unfold inadm
  show _ = match (plK (ros.map Roo.r) ((its.map dltS).take i) (dltS (its.getD i itm0))).find? (badP (netS ros its on)) with
    | some e => some (excQ (netS ros its on) (ndS (ros.map Roo.r) its on i) e)
    | none => match (its.getD i itm0).af.find? (offOf (netS ros its on)) with
      | some id => some ⟨(its.getD i itm0).id,2,rscZ,id⟩
      | none => none
  cases (plK (ros.map Roo.r) ((its.map dltS).take i) (dltS (its.getD i itm0))).find? (badP (netS ros its on)) with
  | some e => rfl
  | none =>
    show ((its.getD i itm0).af.find? (offOf (netS ros its on))).map _ = _
    cases (its.getD i itm0).af.find? (offOf (netS ros its on)) <;> rfl
theorem next_eq {p : Prb} {ros : List Roo} {its : List Itm} (h : PV p ros its) (on : Nat → Bool) : nextR p (onIds its on its.length) = nextN (netS ros its on) := by
  have e1 : (onIds its on its.length).findSome? (blockR p (onIds its on its.length)) = (netS ros its on).nd.findSome? (ndX (netS ros its on)) := by
    show (((List.range its.length).filter on).map fun i => (its.getD i itm0).id).findSome? _ = ((List.range its.length).map _).findSome? _;rw [List.findSome?_map,List.findSome?_map]
    rw [← fs_filter (p := on) (l := List.range its.length) (f := ndX (netS ros its on) ∘ ndS (ros.map Roo.r) its on) (fun i _ ho => by
      show ndX _ (ndS _ _ _ i) = none;unfold ndX;rw [if_neg];show ¬ (on i = true)
      rw [ho]; simp)]
    refine fs_congr fun i hi => ?_;obtain ⟨h1,h2⟩ := List.mem_filter.1 hi;show blockR p _ (its.getD i itm0).id = ndX _ (ndS _ _ _ i);rw [block_eq h on (List.mem_range.1 h1)];unfold ndX;rw [if_pos];exact h2
  have e2 : ros.findSome? (overX its p.it (onIds its on its.length)) = (netS ros its on).po.findSome? (poX (netS ros its on)) := by
    show _ = (ros.map _).findSome? _;rw [List.findSome?_map];exact fs_congr fun x hx => over_eq h on hx
  unfold nextR nextN;rw [h.hr,h.hi,e1,e2]
  cases (netS ros its on).nd.findSome? (ndX (netS ros its on)) <;> rfl
theorem without_off {its : List Itm} (hn : (its.map Itm.id).Nodup) (on : Nat → Bool) {i : Nat} (hi : i < its.length) : without (onIds its on its.length) (its.getD i itm0).id = onIds its (setOff on i) its.length := by
  unfold without onIds;rw [List.filter_map,List.filter_filter]
  congr 1
  refine List.filter_congr fun j hj => ?_;have hj' := List.mem_range.1 hj;show (decide ((its.getD j itm0).id ≠ (its.getD i itm0).id) && on j) = setOff on i j
  by_cases e : j = i
  · subst e; rw [setOff_at]; simp
  · have hne : (its.getD j itm0).id ≠ (its.getD i itm0).id := fun h => e (id_inj hn hj' hi h);rw [Zcb e,decide_eq_true hne,Bool.true_and]
theorem run_eq {p : Prb} {ros : List Roo} {its : List Itm} (h : PV p ros its) : ∀ (f : Nat) (on : Nat → Bool),runR p f (onIds its on its.length) = ((runS ros its f on).1,onIds its (runS ros its f on).2 its.length)
  | 0,on => rfl
  | f + 1,on => by
    cases hne : nextN (netS ros its on) with
    | none => rw [runR_none (by rw [next_eq h,hne]),run_none hne]
    | some e =>
      obtain ⟨i,x,hx,hon,hid⟩ := next_on hne
      have hN : ersN (netS ros its on) = netS ros its on := by
        unfold ersN netS;dsimp only;rw [List.map_map,List.map_map]; rfl
      obtain ⟨hi,_,hit⟩ := S_nd_at hN hx;have hei : (its.getD i itm0).id = e.id := by rw [hid,hit]
      have hidx : (its.map Itm.id).idxOf e.id = i := by
        have h1 := idx_nodup h.s.i (i := i) (by simpa using hi);rw [List.getElem_map] at h1;rw [← hei,ZaH itm0 hi]; exact h1
      rw [runR_some (by rw [next_eq h,hne]),run_some hne,hidx, ← hei,without_off h.s.i on hi,run_eq h f]
theorem expl_eq {p : Prb} (hE : prbE p = 0) (hf : FewP p) : explR p = ((explS p).1,largeS p) := by
  have h := pv_of hE hf;have h1 : ordP p = sortO p.it := if_pos hE
  have h2 : (sortO p.it).map Itm.id = onIds (sortO p.it) (fun _ => true) (sortO p.it).length := by
    conv => lhs; rw [its_range (sortO p.it)]
    unfold onIds;rw [List.map_map,List.filter_eq_self.2 (fun _ _ => rfl)]; rfl
  unfold explR largeS explS;rw [h1,h2,run_eq h]
def FewQ (p : Prb) (n : Nat) : Prop := p.it.length ≤ n ∧ p.ro.length ≤ 30 ∧ ∀ i ∈ p.it,i.po.length ≤ 8 ∧ i.pa.length ≤ 8 ∧ i.af.length ≤ 8
instance (p : Prb) (n : Nat) : Decidable (FewQ p n) := inferInstanceAs (Decidable (_ ∧ _ ∧ ∀ i ∈ p.it,_))
theorem few_of {p : Prb} {n : Nat} (h : FewQ p n) (hn : n ≤ 30) : FewP p := ⟨by have := h.1; omega,by have := h.2.1; omega,h.2.2⟩
theorem few_p (p : Prb) (n : Nat) (hn : n ≤ 1000) : PCalls Tryz.prog 13 [.d (prbD p), .d (intD (n : Int))] (boolD (decide (FewQ p n))) := by
  refine ZaB Tryz.func13 rfl rfl Tryz.ntmps13 rfl rfl rfl fun F hF => (Zad (Zab (Zaj.go (ZaS 1 rfl rfl rfl rfl rfl rfl rfl) (goAs rfl rfl (Zac (Zad ?_))))));refine Zad (Zab (Zaa.go (Zag rfl Za3 rfl rfl rfl) (Zaa.go (Zah rfl rfl rfl on23 rfl) (Zaa.go (ZaA rfl Tryz.underlying23 rfl) (goMv rfl rfl (Zaa.go (Zbv rfl rfl rfl) (goMv rfl rfl (ZaP 11 rfl (fun h11 => ?_) (fun h11 => ?_)))))))))
  · refine Zai rfl rfl rfl rfl (Zai rfl rfl rfl rfl (Zai rfl rfl rfl rfl ?_));refine Zai rfl rfl rfl rfl (Zaa.go (Zaw rfl rfl rfl rfl) (Zac (ZaU rfl rfl (Zad (Zab (goAs rfl rfl (Zac (Zao ?_))))))));exact ⟨_,[],[],Zak rfl,rfl,rfl,retF (fun h => by have h1 := h.1; have h2 := h.2.1; omega),rfl⟩
  · refine Zal rfl rfl rfl (Zaa.go (Zag rfl ZaY rfl rfl rfl) ?_);refine Zal rfl rfl rfl (Zaa.go (Zah rfl rfl rfl on22 rfl) (Zal rfl rfl rfl (Zaa.go (ZaA rfl Tryz.underlying22 rfl) (Zal rfl rfl rfl (Zaa.go (Zbv rfl rfl rfl) (Zaa.go (ZaG rfl rfl rfl rfl) (Zac (ZaF rfl (fun h16 => ?_) (fun h16 => ?_)))))))))
    · refine Zad (Zab (goAs rfl rfl (Zac (Zao ?_))));exact ⟨_,[],[],Zak rfl,rfl,rfl,retF (fun h => by have h1 := h.1; have h2 := h.2.1; omega),rfl⟩
    · refine Zap (Zad (Zad (Zab (goAs rfl rfl (Zac (Zam (ZaK (α := Nat) (fun k => ⟨52,[(2,(.ptr 1 0 0)),(5,(.d (intD (k : Int))))],[(1,[prbB2 25 p])]⟩) (fun k => k ≤ p.it.length ∧ ∀ i ∈ p.it.take k,i.po.length ≤ 8 ∧ i.pa.length ≤ 8 ∧ i.af.length ≤ 8) (fun k => p.it.length - k) (0) (⟨Nat.zero_le _,by simp⟩) (Zaq hF [1] rfl rfl ⟨rfl,rfl,trivial⟩) ?_)))))));rintro k ⟨hk0,hk⟩;refine Zad ?_;refine Zad (Zab (goMv rfl rfl (Zaa.go (Zag rfl Za3 rfl rfl rfl) (Zaa.go (Zah rfl rfl rfl on23 rfl) (Zaa.go (ZaA rfl Tryz.underlying23 rfl) (Zaa.go (ZaI rfl rfl rfl) (Zac (ZaF rfl (fun h21 => ?_) (fun h21 => ?_)))))))))
      · have hk1 : k < p.it.length := ZaN h21;refine Zap (Zad (Zam (Zad (Zab (Zaa.go (Zag rfl Za3 rfl rfl rfl) ?_)))));refine Zaa.go (Zah rfl rfl rfl on23 rfl) (goMv rfl rfl (Zaa.go (Zat (k) rfl rfl (rfl) (getm hk1) Tryz.underlying23 rfl sz64 rfl) (Zaa.go (ZaJ rfl fi64_3 rfl rfl rfl) (Zaa.go (ZaE rfl rfl on61 rfl) (Zaa.go (ZaA rfl Tryz.underlying61 rfl) (Zaa.go (Zbv rfl rfl rfl) (goMv rfl rfl (ZaP 32 rfl (fun h32 => ?_) (fun h32 => ?_)))))))))
        · refine Zai rfl rfl rfl rfl (Zai rfl rfl rfl rfl (Zai rfl rfl rfl rfl (Zai rfl rfl rfl rfl (Zai rfl rfl rfl rfl (Zai rfl rfl rfl rfl (Zai rfl rfl rfl rfl (Zai rfl rfl rfl rfl ?_)))))));refine Zaa.go (Zaw rfl rfl rfl rfl) (goMv rfl rfl (Zai rfl rfl rfl rfl (Zai rfl rfl rfl rfl (Zai rfl rfl rfl rfl (Zai rfl rfl rfl rfl (Zai rfl rfl rfl rfl (Zai rfl rfl rfl rfl (Zai rfl rfl rfl rfl ?_))))))));refine Zai rfl rfl rfl rfl (Zaa.go (Zaw rfl rfl rfl rfl) (Zac (ZaU rfl rfl (Zad (Zab (goAs rfl rfl (Zac (Zao ?_))))))));exact ⟨_,[],[],Zak rfl,rfl,rfl,retF (fun h => by have h1 := h.2.2 _ (List.getElem_mem hk1); omega),rfl⟩
        · refine Zal rfl rfl rfl ?_;refine Zaa.go (Zag rfl Za3 rfl rfl rfl) (Zal rfl rfl rfl (Zaa.go (Zah rfl rfl rfl on23 rfl) (Zal rfl rfl rfl (goMv rfl rfl (Zal rfl rfl rfl (Zaa.go (Zat (k) rfl rfl (rfl) (getm hk1) Tryz.underlying23 rfl sz64 rfl) (Zal rfl rfl rfl (Zaa.go (ZaJ rfl fi64_4 rfl rfl rfl) ?_))))))));refine Zal rfl rfl rfl (Zaa.go (ZaE rfl rfl on62 rfl) (Zal rfl rfl rfl (Zaa.go (ZaA rfl Tryz.underlying62 rfl) (Zal rfl rfl rfl (Zaa.go (Zbv rfl rfl rfl) (Zaa.go (ZaG rfl rfl rfl rfl) (goMv rfl rfl (ZaP 42 rfl (fun h42 => ?_) (fun h42 => ?_)))))))))
          · refine Zai rfl rfl rfl rfl (Zai rfl rfl rfl rfl (Zai rfl rfl rfl rfl (Zai rfl rfl rfl rfl (Zai rfl rfl rfl rfl (Zai rfl rfl rfl rfl (Zai rfl rfl rfl rfl ?_))))));refine Zai rfl rfl rfl rfl (Zaa.go (Zaw rfl rfl rfl rfl) (Zac (ZaU rfl rfl (Zad (Zab (goAs rfl rfl (Zac (Zao ?_))))))));exact ⟨_,[],[],Zak rfl,rfl,rfl,retF (fun h => by have h1 := h.2.2 _ (List.getElem_mem hk1); omega),rfl⟩
          · refine Zal rfl rfl rfl ?_;refine Zaa.go (Zag rfl Za3 rfl rfl rfl) (Zal rfl rfl rfl (Zaa.go (Zah rfl rfl rfl on23 rfl) (Zal rfl rfl rfl (goMv rfl rfl (Zal rfl rfl rfl (Zaa.go (Zat (k) rfl rfl (rfl) (getm hk1) Tryz.underlying23 rfl sz64 rfl) (Zal rfl rfl rfl (Zaa.go (ZaJ rfl ZbG rfl rfl rfl) ?_))))))));refine Zal rfl rfl rfl (Zaa.go (ZaE rfl rfl on28 rfl) (Zal rfl rfl rfl (Zaa.go (ZaA rfl Tryz.underlying28 rfl) (Zal rfl rfl rfl (Zaa.go (Zbv rfl rfl rfl) (Zaa.go (ZaG rfl rfl rfl rfl) (Zac (ZaF rfl (fun h51 => ?_) (fun h51 => ?_)))))))))
            · refine Zad (Zab (goAs rfl rfl (Zac (Zao ?_))));exact ⟨_,[],[],Zak rfl,rfl,rfl,retF (fun h => by have h1 := h.2.2 _ (List.getElem_mem hk1); omega),rfl⟩
            · refine Zap (Zab (goMv rfl rfl (Zaa.go (Zay rfl rfl (wrapS (k + 1) (by omega)) rfl) (goAs rfl rfl (Zac ?_)))));exact ⟨k + 1,⟨by show k + 1 ≤ _; omega,by rw [List.take_succ_eq_append_getElem hk1]; intro i hi; rcases List.mem_append.1 hi with hi | hi; exact hk i hi; rw [List.mem_singleton.1 hi]; omega⟩,by show p.it.length - (k + 1) < p.it.length - k; omega,Zaq hF [1] rfl (rfl) ⟨rfl,rfl,trivial⟩⟩
      · refine ZaL (Zad (Zab (goAs rfl rfl (Zac (Zao ?_)))));exact ⟨_,[],[],Zak rfl,rfl,rfl,retT ⟨by omega,by omega,fun i hi => hk i (by rw [List.take_of_length_le (by have h := h21; omega)]; exact hi)⟩,rfl⟩
theorem same30_p (l m : List Int) (hl : l.length ≤ 100000) (hm : m.length ≤ 100000) : PCalls Tryz.prog 19 [.d (.sl none (l.map intD)), .d (.sl none (m.map intD))] (boolD (decide (l = m))) := by
  refine ZaB Tryz.func19 rfl rfl Tryz.ntmps19 rfl rfl rfl fun F hF => (Zad (Zab (goAs rfl rfl (Zac (Zad ?_)))));refine Zad (Zab (goMv rfl rfl (Zaa.go (ZaA rfl Tryz.underlying28 rfl) (goMv rfl rfl (Zaa.go (ZaA rfl Tryz.underlying28 rfl) (Zaa.go (Zbi rfl rfl rfl) (Zac (ZaF rfl (fun h10 => ?_) (fun h10 => ?_)))))))))
  · refine Zad (Zab (goAs rfl rfl (Zac (Zao ?_))));exact ⟨_,[],[],Zak rfl,rfl,rfl,retF (fun h => by have h1 := congrArg List.length h; have h := h10; omega),rfl⟩
  · refine Zap (Zad (Zad ?_));have hlen : l.length = m.length := by have h := h10; omega
    refine Zab (goAs rfl rfl (Zac (Zam (ZaK (α := Nat) (fun k => ⟨26,[(0, .d (.sl none (l.map intD))),(1, .d (.sl none (m.map intD))),(5,(.d (intD (k : Int))))],[]⟩) (fun k => k ≤ l.length ∧ l.take k = m.take k) (fun k => l.length - k) (0) (⟨Nat.zero_le _,by simp⟩) (Zaq hF [] rfl rfl ⟨rfl,rfl,rfl,trivial⟩) ?_))));rintro k ⟨hk0,hk⟩;refine Zad (Zad (Zab (goMv rfl rfl (goMv rfl rfl (Zaa.go (ZaA rfl Tryz.underlying28 rfl) (Zaa.go (ZaI rfl rfl rfl) (Zac (ZaF rfl (fun h14 => ?_) (fun h14 => ?_)))))))))
    · have hk1 : k < l.length := ZaN h14;refine Zap (Zad (Zam (Zad ?_)));have hk2 : k < m.length := by omega
      refine ZaT [[],[],[0,1],[0,1,2],[],[],[4,5],[4,5,6],[0,1,2,3,4,5,6,7]] mixed rfl (dws (Zaf [0] [] rfl rfl (fun _ => Zae (Zar rfl rfl)) (Zaf [5] [] rfl rfl (fun _ => Zae (Zar rfl rfl)) (Zaf [17,18] [] rfl rfl (fun _ => Zae (Zat (k) rfl rfl (rfl) (getm hk1) Tryz.underlying28 rfl sz3 rfl)) ?_))));refine Zaf [19] [] rfl rfl (fun _ => Zae (ZaE rfl rfl on3 rfl)) (Zaf [1] [] rfl rfl (fun _ => Zae (Zar rfl rfl)) (Zaf [5] [] rfl rfl (fun _ => Zae (Zar rfl rfl)) (Zaf [21,22] [] rfl rfl (fun _ => Zae (Zat (k) rfl rfl (rfl) (getm hk2) Tryz.underlying28 rfl sz3 rfl)) (Zaf [23] [] rfl rfl (fun _ => Zae (ZaE rfl rfl on3 rfl)) (dwc 8 rfl rfl rfl (dw1 9 rfl rfl (Zaa.go (Zbi rfl rfl rfl) (Zac ⟨rfl, ?_⟩))))))));refine dwe (ZaF rfl (fun h25 => ?_) (fun h25 => ?_))
      · refine Zad (Zab (goAs rfl rfl (Zac (Zao ?_))));exact ⟨_,[],[],Zak rfl,rfl,rfl,retF (fun h => by subst h; exact h25 rfl),rfl⟩
      · refine Zap (Zab (goMv rfl rfl (Zaa.go (Zay rfl rfl (wrapS (k + 1) (by omega)) rfl) (goAs rfl rfl (Zac ?_)))));exact ⟨k + 1,⟨by show k + 1 ≤ _; omega,by rw [List.take_succ_eq_append_getElem hk1,List.take_succ_eq_append_getElem hk2,hk,Classical.not_not.1 h25]⟩,by show l.length - (k + 1) < l.length - k; omega,Zaq hF [] rfl (rfl) ⟨rfl,rfl,rfl,trivial⟩⟩
    · refine ZaL (Zad (Zab (goAs rfl rfl (Zac (Zao ?_)))));exact ⟨_,[],[],Zak rfl,rfl,rfl,retT (by have h1 := hk; rw [List.take_of_length_le (by have h := h14; omega),List.take_of_length_le (by have h := h14; omega)] at h1; exact h1),rfl⟩
theorem subset30_p (l m : List Int) (hl : l.length ≤ 100000) (hm : m.length ≤ 100000) : PCalls Tryz.prog 24 [.d (.sl none (l.map intD)), .d (.sl none (m.map intD))] (boolD (decide (∀ x ∈ l,x ∈ m))) := by
  refine ZaB Tryz.func24 rfl rfl Tryz.ntmps24 rfl rfl rfl fun F hF => (Zad (Zab ?_));refine goAs rfl rfl (Zac (Zad (Zad (Zab (goAs rfl rfl (Zac (Zam (ZaK (α := Nat) (fun k => ⟨19,[(0, .d (.sl none (l.map intD))),(1, .d (.sl none (m.map intD))),(5,(.d (intD (k : Int))))],[]⟩) (fun k => k ≤ l.length ∧ ∀ x ∈ l.take k,x ∈ m) (fun k => l.length - k) (0) (⟨Nat.zero_le _,by simp⟩) (Zaq hF [] rfl rfl ⟨rfl,rfl,rfl,trivial⟩) ?_))))))));rintro k ⟨hk0,hk⟩;refine Zad (Zad (Zab (goMv rfl rfl (goMv rfl rfl (Zaa.go (ZaA rfl Tryz.underlying28 rfl) (Zaa.go (ZaI rfl rfl rfl) (Zac (ZaF rfl (fun h9 => ?_) (fun h9 => ?_)))))))))
  · have hk1 : k < l.length := ZaN h9;refine Zap (Zad (Zam (Zad (Zab ?_))));refine goMv rfl rfl (goMv rfl rfl (goMv rfl rfl (Zaa.go (Zat (k) rfl rfl (rfl) (getm hk1) Tryz.underlying28 rfl sz3 rfl) (Zaa.go (ZaE rfl rfl on3 rfl) (Zaa.go (Zau (has30_p m l[k] (by omega)) rfl rfl) (Zaa.go (Zbq rfl rfl) (Zac (ZaF rfl (fun h18 => ?_) (fun h18 => ?_)))))))))
    · refine Zad (Zab (goAs rfl rfl (Zac (Zao ?_))));exact ⟨_,[],[],Zak rfl,rfl,rfl,retF (fun h => by have h1 := h _ (List.getElem_mem hk1); exact absurd h1 (by simpa using h18)),rfl⟩
    · refine Zap (Zab (goMv rfl rfl (Zaa.go (Zay rfl rfl (wrapS (k + 1) (by omega)) rfl) (goAs rfl rfl (Zac ?_)))));exact ⟨k + 1,⟨by show k + 1 ≤ _; omega,by rw [List.take_succ_eq_append_getElem hk1]; intro i hi; rcases List.mem_append.1 hi with hi | hi; exact hk i hi; rw [List.mem_singleton.1 hi]; simpa using h18⟩,by show l.length - (k + 1) < l.length - k; omega,Zaq hF [] rfl (rfl) ⟨rfl,rfl,rfl,trivial⟩⟩
  · refine ZaL (Zad (Zab (goAs rfl rfl (Zac (Zao ?_)))));exact ⟨_,[],[],Zak rfl,rfl,rfl,retT (fun x hx => hk x (by rw [List.take_of_length_le (by have h := h9; omega)]; exact hx)),rfl⟩
def feasR (p : Prb) (l : List Int) : Prop := (∀ id ∈ l,blockR p l id = none) ∧ ∀ x ∈ p.ro, ¬ overL p.it x l < 0
noncomputable instance (p : Prb) (l : List Int) : Decidable (feasR p l) := Classical.propDecidable _
set_option maxHeartbeats 1000000 in
theorem feasible30_n (p : Prb) (hf : FewP p) (hE : (p.ro.map Roo.r).Nodup) (hrn : ∀ x ∈ p.ro, -100000000000000000 ≤ x.n ∧ x.n ≤ 100000000000000000) (l : List Int) (hl : l.length ≤ 1000) (hids : ∀ id ∈ l,id ∈ p.it.map Itm.id) : PCalls Tryz.prog 20 [.d (prbD p), .d (.sl none (l.map intD))] (boolD (decide (feasR p l))) := by
  have hil := hf.i;have hrl := hf.r;refine ZaB Tryz.func20 rfl rfl Tryz.ntmps20 rfl rfl rfl fun F hF => (Zad (Zab (Zaj.go (ZaS 1 rfl rfl rfl rfl rfl rfl rfl) ?_)));refine goAs rfl rfl (Zac (Zad (Zad (Zab (goAs rfl rfl (Zac (Zam (ZaK (α := Nat) (fun k => ⟨42,[(1, .d (.sl none (l.map intD))),(2,(.ptr 1 0 0)),(5,(.d (intD (k : Int))))],[(1,[prbB2 25 p])]⟩) (fun k => k ≤ l.length ∧ ∀ x ∈ l.take k,blockR p l x = none) (fun k => l.length - k) (0) (⟨Nat.zero_le _,by simp⟩) (Zaq hF [1] rfl rfl ⟨rfl,rfl,rfl,trivial⟩) ?_))))))));rintro k ⟨hk0,hkb⟩;refine Zad (Zad (Zab (goMv rfl rfl (goMv rfl rfl (Zaa.go (ZaA rfl Tryz.underlying28 rfl) (Zaa.go (ZaI rfl rfl rfl) (Zac (ZaF rfl (fun h12 => ?_) (fun h12 => ?_)))))))))
  · have hk1 : k < l.length := ZaN h12;refine Zap (Zad (Zam (Zad ?_)));have hbl := blocked_n p hf hE l l[k] hl (hids _ (List.getElem_mem hk1));refine ZaT [[],[],[],[],[2,3],[2,3,4],[0,1,2,3,4,5],[0,1,2,3,4,5,6],[0,1,2,3,4,5,6,7],[0,1,2,3,4,5,6,7],[],[0,1,2,3,4,5,6,7,8,10],[0,1,2,3,4,5,6,7,8,9,10,11]] mixed rfl (dws (Zaf [2] [1] rfl rfl (fun _ => Zae (Zas rfl rfl rw25 rfl rfl rfl)) (Zaf [1] [] rfl rfl (fun _ => Zae (Zar rfl rfl)) (Zaf [1] [] rfl rfl (fun _ => Zae (Zar rfl rfl)) (Zaf [5] [] rfl rfl (fun _ => Zae (Zar rfl rfl)) (Zaf [18,19] [] rfl rfl (fun _ => Zae (Zat (k) rfl rfl (rfl) (getm hk1) Tryz.underlying28 rfl sz3 rfl)) (Zaf [20] [] rfl rfl (fun _ => Zae (ZaE rfl rfl on3 rfl)) (Zaf [16,17,21] [] rfl rfl (fun _ => Zae (Zau (hbl) rfl rfl)) ?_))))))));refine Zaf [22] [] rfl rfl (fun _ => Zae (Zar rfl rfl)) (Zaf [15] [] rfl rfl (fun _ => Zae (ZaR rfl rfl rfl)) (Zaf [15] [] rfl rfl (fun _ => Zae (ZaR rfl rfl rfl)) (Zbf [] [2] [(6,_)] rfl rfl (fun _ => Za5 (ZaQ 2 zl58 rfl rfl rfl rfl)) (.inr ⟨6,_,rfl,rfl,rfl,rfl,rfl⟩) rfl rfl rfl rfl rfl (Zbf [6,23] [2] [] rfl rfl (fun _ => Za5 (Zaz rfl rfl rfl rfl rfl rfl rfl sz58)) (.inl ⟨rfl,rfl⟩) rfl rfl rfl rfl rfl (dwc 12 rfl rfl rfl (dw1 13 rfl rfl (goAs rfl rfl (Zac ⟨rfl, ?_⟩))))))));refine dwe (Zad (Zab ?_))
    cases hbk : blockR p l l[k]
    · refine goMv rfl rfl (Zac (Za9 rfl (rfl) (Zap (Zab (goMv rfl rfl (Zaa.go (Zay rfl rfl (wrapS (k + 1) (by omega)) rfl) (goAs rfl rfl (Zac ?_))))))));exact ⟨k + 1,⟨by show k + 1 ≤ _; omega,by rw [List.take_succ_eq_append_getElem hk1]; intro e he; rcases List.mem_append.1 he with he | he; exact hkb e he; rw [List.mem_singleton.1 he]; exact hbk⟩,by show l.length - (k + 1) < l.length - k; omega,Zaq hF [1] rfl (rfl) ⟨rfl,rfl,rfl,trivial⟩⟩
    · refine goMv rfl rfl (Zac (ZaU rfl (rfl) (Zad (Zab (goAs rfl rfl (Zac (Zao ?_)))))));exact ⟨_,[],[],Zak rfl,rfl,rfl,retF (fun h => by have h1 := h.1 _ (List.getElem_mem hk1); rw [hbk] at h1; cases h1),rfl⟩
  · refine ZaL (Zad (Zad ?_));have hall : ∀ id ∈ l,blockR p l id = none := by have e : k = l.length := (by have h := h12; omega); rw [e,List.take_length] at hkb; exact hkb
    refine Zab (goAs rfl rfl (Zac (Zam (ZaK (α := Nat) (fun j => ⟨42,[(1, .d (.sl none (l.map intD))),(2,(.ptr 1 0 0)),(8,(.d (intD (j : Int))))],[(1,[prbB2 25 p])]⟩) (fun j => j ≤ p.ro.length ∧ ∀ x ∈ p.ro.take j, ¬ overL p.it x l < 0) (fun j => p.ro.length - j) (0) (⟨Nat.zero_le _,by simp⟩) (Zaq hF [1] rfl rfl ⟨rfl,rfl,rfl,trivial⟩) ?_))));rintro j ⟨hj0,hjb⟩;refine Zad ?_;refine Zad (Zab (goMv rfl rfl (Zaa.go (Zag rfl ZaY rfl rfl rfl) (Zaa.go (Zah rfl rfl rfl on22 rfl) (Zaa.go (ZaA rfl Tryz.underlying22 rfl) (Zaa.go (ZaI rfl rfl rfl) (Zac (ZaF rfl (fun h30 => ?_) (fun h30 => ?_)))))))))
    · have hj1 : j < p.ro.length := ZaN h30;refine Zap (Zad (Zam (Zad ?_)));have hovp := over_n p p.ro[j] l hil (hrn _ (List.getElem_mem hj1)) hl (fun i hi => hf.x i hi);refine ZaT [[],[],[1],[],[1,2,3],[1,2,3,4],[],[0,1,2,3,4,5,6],[0,1,2,3,4,5,6,7]] mixed rfl (dws (Zaf [2] [1] rfl rfl (fun _ => Zae (Zas rfl rfl rw25 rfl rfl rfl)) (Zaf [2] [] rfl rfl (fun _ => Zae (Zag rfl ZaY rfl rfl rfl)) ?_)));refine Zaf [34] [1] rfl rfl (fun _ => Zae (Zah rfl rfl rfl on22 rfl)) (Zaf [8] [] rfl rfl (fun _ => Zae (Zar rfl rfl)) (Zaf [35,36] [] rfl rfl (fun _ => Zae (Zat (j) rfl rfl (rfl) (getm hj1) Tryz.underlying22 rfl sz67 rfl)) (Zaf [37] [] rfl rfl (fun _ => Zae (ZaC rfl rfl rw67 rfl)) (Zaf [1] [] rfl rfl (fun _ => Zae (Zar rfl rfl)) (dwc 7 rfl rfl rfl (dw1 8 rfl rfl (Zaa.go (Zau (hovp) rfl rfl) (Zac ⟨rfl, ?_⟩))))))));refine dw1 9 rfl rfl (Zaa.go (Zbv rfl rfl rfl) (Zac ⟨rfl, ?_⟩));refine dwe (ZaF rfl (fun h41 => ?_) (fun h41 => ?_))
      · refine Zad (Zab (goAs rfl rfl (Zac (Zao ?_))));exact ⟨_,[],[],Zak rfl,rfl,rfl,retF (fun h => by have h1 := h.2 _ (List.getElem_mem hj1); have h2 := h41; rw [Int.max_def] at h2; split at h2 <;> omega),rfl⟩
      · refine Zap (Zab (goMv rfl rfl (Zaa.go (Zay rfl rfl (wrapS (j + 1) (by omega)) rfl) (goAs rfl rfl (Zac ?_)))));exact ⟨j + 1,⟨by show j + 1 ≤ _; omega,by rw [List.take_succ_eq_append_getElem hj1]; intro e he; rcases List.mem_append.1 he with he | he; exact hjb e he; rw [List.mem_singleton.1 he]; have h := h41; rw [Int.max_def] at h; split at h <;> omega⟩,by show p.ro.length - (j + 1) < p.ro.length - j; omega,Zaq hF [1] rfl (rfl) ⟨rfl,rfl,rfl,trivial⟩⟩
    · refine ZaL (Zad (Zab (goAs rfl rfl (Zac (Zao ?_)))));exact ⟨_,[],[],Zak rfl,rfl,rfl,retT ⟨hall,fun x hx => hjb x (by rw [List.take_of_length_le (by have h := h30; omega)]; exact hx)⟩,rfl⟩
theorem netS_ers (ros : List Roo) (its : List Itm) (on : Nat → Bool) : ersN (netS ros its on) = netS ros its on := by
  unfold ersN netS;dsimp only;rw [List.map_map,List.map_map]; rfl
theorem next_at {ros : List Roo} {its : List Itm} (hn : (its.map Itm.id).Nodup) {on : Nat → Bool} {e : Exc} (h : nextN (netS ros its on) = some e) : ∃ i,i < its.length ∧ on i = true ∧ (its.getD i itm0).id = e.id ∧ (its.map Itm.id).idxOf e.id = i := by
  obtain ⟨i,x,hx,hon,hid⟩ := next_on h;obtain ⟨hi,ho,hit⟩ := S_nd_at (netS_ers ros its on) hx;have hei : (its.getD i itm0).id = e.id := by rw [hid,hit]
  refine ⟨i,hi,by rw [← ho]; exact hon,hei, ?_⟩;have h1 := idx_nodup hn (i := i) (by simpa using hi);rw [List.getElem_map] at h1;rw [← hei,ZaH itm0 hi]; exact h1
theorem cntOn_le (n : Nat) (on : Nat → Bool) : cntOn n on ≤ n := by
  unfold cntOn;exact Nat.le_trans (List.length_filter_le _ _) (by simp)
theorem block_mono {p : Prb} {l t : List Int} {id : Int} (hs : ∀ x ∈ t,x ∈ l) (h : blockR p t id = none) : blockR p l id = none := by
  unfold blockR at h ⊢
  cases h1 : (rosS p).findSome? (blkR (sortO p.it) t id) with
  | some e => rw [h1] at h; cases h
  | none =>
    rw [h1] at h
    have h2 : (rosS p).findSome? (blkR (sortO p.it) l id) = none := findSome_no fun x hx => by
      have h3 := List.findSome?_eq_none_iff.1 h1 x hx;unfold blkR at h3 ⊢
      split
      · rename_i hq
        rw [if_pos hq] at h3
        have h4 : ((qIds (sortO p.it) x.r).takeWhile fun a => decide (a ≠ id)).find? (fun a => decide (a ∉ t)) = none := by
          cases hf : ((qIds (sortO p.it) x.r).takeWhile fun a => decide (a ≠ id)).find? (fun a => decide (a ∉ t)) with
          | none => rfl
          | some a => rw [hf] at h3; cases h3
        rw [Zcd (fun a ha => by
          have := List.find?_eq_none.1 h4 a ha
          simp at this
          simpa using hs a this)]; rfl
      · rfl
    rw [h2];dsimp only at h ⊢
    have h5 : (itmOf p id).af.find? (fun a => decide (a ∉ t)) = none := by
      cases hf : (itmOf p id).af.find? (fun a => decide (a ∉ t)) with
      | none => rfl
      | some a => rw [hf] at h; cases h
    rw [Zcd (fun a ha => by
      have := List.find?_eq_none.1 h5 a ha
      simp at this
      simpa using hs a this)]; rfl
theorem overL_le {x : Roo} {l t : List Int} (hs : ∀ y ∈ t,y ∈ l) : ∀ {its : List Itm},(∀ i ∈ its,i.id ∈ l → i.id ∉ t → 0 ≤ dltE i x.r) → overL its x t ≤ overL its x l
  | [],_ => Int.le_refl _
  | a :: its,h => by
    have ih := overL_le hs (its := its) fun i hi => h i (List.mem_cons_of_mem _ hi);have ha := h a (List.mem_cons_self ..);unfold overL at ih ⊢;rw [List.filter_cons,List.filter_cons]
    by_cases h1 : a.id ∈ t
    · rw [if_pos (decide_eq_true h1),if_pos (decide_eq_true (hs _ h1))];simp only [List.map_cons,List.sum_cons]; omega
    · rw [if_neg (by simpa using h1)]
      by_cases h2 : a.id ∈ l
      · rw [if_pos (decide_eq_true h2)];have := ha h2 h1;simp only [List.map_cons,List.sum_cons]; omega
      · rw [if_neg (by simpa using h2)]; exact ih
theorem not_next {p : Prb} (hE : prbE p = 0) {l t : List Int} (ht : feasR p t) (hs : ∀ y ∈ t,y ∈ l) {e : Exc} (hn : nextR p l = some e) : e.id ∉ t := fun het => by
  unfold nextR at hn
  split at hn
  · rename_i e' h1
    injection hn with hn; subst hn
    obtain ⟨id,hid,h2⟩ := List.exists_of_findSome?_eq_some h1;have h3 := blockR_id h2;rw [h3] at het;rw [block_mono hs (ht.1 id het)] at h2; cases h2
  · obtain ⟨x,hx,h2⟩ := List.exists_of_findSome?_eq_some hn;have hxp := (rosS_perm p).mem_iff.1 hx;unfold overX at h2
    split at h2
    · rename_i ho
      obtain ⟨a,ha,rfl⟩ := Option.map_eq_some_iff.1 h2;dsimp only at het;obtain ⟨hal,u,v,huv,hu⟩ := List.find?_eq_some_iff_append.1 ha
      have hQ : qIds (sortO p.it) x.r = v.reverse ++ a :: u.reverse := by
        have := congrArg List.reverse huv;rw [List.reverse_reverse,List.reverse_append,List.reverse_cons,List.append_assoc] at this;exact this
      have hQn : (qIds (sortO p.it) x.r).Nodup := by
        have h1 : ((sortO p.it).map Itm.id).Nodup := ((Zbe p.it).map Itm.id).nodup_iff.2 (items_ids (ZbO hE).2.1);unfold qIds;exact h1.sublist ((List.filter_sublist).map Itm.id)
      have hav : a ∉ v.reverse := fun hm => by
        rw [hQ,List.nodup_append] at hQn;exact hQn.2.2 _ hm _ (List.mem_cons_self ..) rfl
      have hblk := ht.1 a het
      have hall : ∀ b ∈ v.reverse,b ∈ t := fun b hb => by
        unfold blockR at hblk
        cases h1 : (rosS p).findSome? (blkR (sortO p.it) t a) with
        | some e => rw [h1] at hblk; cases hblk
        | none =>
          have h3 := List.findSome?_eq_none_iff.1 h1 x hx;unfold blkR at h3;rw [if_pos (by rw [hQ]; simp)] at h3;have hlt : v.reverse.length < (qIds (sortO p.it) x.r).length := by rw [hQ,List.length_append]; simp
          have htk : (qIds (sortO p.it) x.r).take v.reverse.length = v.reverse := by rw [hQ,List.take_left']; rfl
          have hat : (qIds (sortO p.it) x.r)[v.reverse.length] = a := by
            have : (qIds (sortO p.it) x.r)[v.reverse.length]? = some a := by
              rw [hQ,List.getElem?_append_right (Nat.le_refl _),Nat.sub_self]; rfl
            rw [List.getElem?_eq_getElem hlt] at this; exact Option.some.inj this
          rw [tw_take hlt (fun c hc => by rw [htk] at hc; exact decide_eq_true fun e => hav (e ▸ hc)) (by rw [hat]; simp),htk] at h3
          have h4 : v.reverse.find? (fun a => decide (a ∉ t)) = none := by
            cases hf : v.reverse.find? (fun a => decide (a ∉ t)) with
            | none => rfl
            | some c => rw [hf] at h3; cases h3
          have := List.find?_eq_none.1 h4 b hb
          simpa using this
      have hle := overL_le (x := x) hs (its := p.it) fun i hi h1 h2 => Classical.byContradiction fun hneg => by
        have hq : i.id ∈ qIds (sortO p.it) x.r := List.mem_map.2 ⟨i,List.mem_filter.2 ⟨(Zbe p.it).mem_iff.2 hi,by simpa using hneg⟩,rfl⟩;rw [hQ] at hq;rcases List.mem_append.1 hq with hq | hq
        · exact h2 (hall _ hq)
        · rcases List.mem_cons.1 hq with hq | hq
          · rw [hq] at h2; exact h2 het
          · have := hu _ (List.mem_reverse.1 hq)
            simp at this
            exact this h1
      exact ht.2 x hxp (by omega)
    · cases h2
theorem large_max {p : Prb} (hE : prbE p = 0) (hf : FewP p) {t : List Int} (ht : feasR p t) (hs : ∀ y ∈ t,y ∈ p.it.map Itm.id) : ∀ y ∈ t,y ∈ largeS p := by
  have h := pv_of hE hf;have h1 : ordP p = sortO p.it := if_pos hE
  have key : ∀ (f : Nat) (on : Nat → Bool),(∀ y ∈ t,y ∈ onIds (sortO p.it) on (sortO p.it).length) → ∀ y ∈ t,y ∈ onIds (sortO p.it) (runS (rosS p) (sortO p.it) f on).2 (sortO p.it).length := by
    intro f
    induction f with
    | zero => intro on ho; exact ho
    | succ f ih =>
      intro on ho
      cases hne : nextN (netS (rosS p) (sortO p.it) on) with
      | none => rw [run_none hne]; exact ho
      | some e =>
        obtain ⟨i,hi,_,hei,hx⟩ := next_at h.s.i hne;rw [run_some hne,hx];refine ih (setOff on i) fun y hy => ?_;have hnt := not_next hE ht ho (by rw [next_eq h]; exact hne);rw [← without_off h.s.i on hi,hei];exact List.mem_filter.2 ⟨ho y hy,decide_eq_true fun e2 => hnt (e2 ▸ hy)⟩
  unfold largeS explS;rw [h1];refine key _ _ fun y hy => ?_
  have h2 : onIds (sortO p.it) (fun _ => true) (sortO p.it).length = (sortO p.it).map Itm.id := by
    conv => rhs; rw [its_range (sortO p.it)]
    unfold onIds;rw [List.map_map,List.filter_eq_self.2 (fun _ _ => rfl)]; rfl
  rw [h2];exact ((Zbe p.it).map Itm.id).mem_iff.2 (hs y hy)
def sub30 (ids : List Int) (m k : Nat) : List Int := ((List.range k).filter fun j => decide (m / 2 ^ j % 2 = 1)).map fun j => ids.getD j 0
def InU (p : Prb) (ids : List Int) (M : Nat) (x : Int) : Prop := ∃ m,m < M ∧ feasR p (sub30 ids m ids.length) ∧ x ∈ sub30 ids m ids.length
noncomputable instance (p : Prb) (ids : List Int) (M : Nat) (x : Int) : Decidable (InU p ids M x) := Classical.propDecidable _
theorem alone1_c {wb mv : Nat} {nb pb : Nat → Nat} {N : Net} {M : MF} (h : Rep wb mv nb pb N M) {i : Nat} {x : Nd} (hx : N.nd[i]? = some x) : ACalls Tryz.prog 81 [.d (pD (nb i) 0)] (HN M) fun r H' => r = .d (boolD x.on) ∧ H' = HN M := by
  have hxb := h.n i x hx;refine ZaB Tryz.func81 rfl rfl Tryz.ntmps81 rfl rfl rfl fun F hF => (Zad (Zab (goAs rfl rfl (Zac ?_))));refine Zad (Zab (goMv rfl rfl (Zaa.go (Zax rfl rfl) (Zaa.go (Zav rfl Zb5 rfl rfl rfl) (Zaa.go (ZaV (f := 40) rfl rfl (hxb) rfl on4 rfl) (goAs rfl rfl (Zac (Zao ?_))))))));exact ⟨_,[40],_,Zak rfl,rfl,rfl,rfl,rfl⟩
theorem alone3_c {wb mv : Nat} {nb pb : Nat → Nat} {N : Net} {M : MF} (h : Rep wb mv nb pb N M) (e : Nat × Int) {y : Po} (hy : N.po[e.1]? = some y) (hr : -1000000000000000000 ≤ y.room ∧ y.room ≤ 1000000000000000000) (he : -2000000000000000000 ≤ e.2 ∧ e.2 ≤ 2000000000000000000) : ACalls Tryz.prog 84 [.d (efD pb e)] (HN M) fun r H' => r = .d (boolD (ovP y e.2)) ∧ H' = HN M := by
  have hov := overdrawn_c h hy e.2 hr he;refine ZaB Tryz.func84 rfl rfl Tryz.ntmps84 rfl rfl rfl fun F hF => (Zad (Zab (Zaj.go (ZaS 1 rfl rfl rfl rfl rfl rfl rfl) (goAs rfl rfl (Zac (Zad ?_))))));refine Zab (Zaa.go (Zag rfl fi119_0 rfl rfl rfl) (Zaa.go (Zah rfl rfl rfl on117 rfl) (Zaa.go (Zag rfl fi119_1 rfl rfl rfl) (Zaa.go (Zah rfl rfl rfl on2 rfl) (Zaj.go (Zbh hov rfl [40] ⟨rfl,trivial⟩ rfl rfl rfl rfl rfl rfl rfl rfl rfl) (goAs rfl rfl (Zac (Zao ?_))))))));exact ⟨_,[40],_,Zak rfl,rfl,rfl,rfl,rfl⟩
abbrev HA (wb mv : Nat) (bs : Option (List Nat × Nat)) (L : List (Int × Value)) (M : MF) : Hp := (910,[.blk 98 [.d (pD wb 0)]]) :: HW mv bs L M
theorem alone2_c {wb mv : Nat} {nb pb : Nat → Nat} {N : Net} {M : MF} (bs : Option (List Nat × Nat)) (h : Rep wb mv nb pb N M) (hn : (idsN N).Nodup) {id : Int} (hid : id ∈ idsN N) : ACalls Tryz.prog 82 [.d (intD id), .ptr 910 0 0] (HA wb mv bs (byL nb (idsN N)) M) fun r H' => r = .d (boolD (!offOf N id)) ∧ H' = HA wb mv bs (byL nb (idsN N)) M := by
  have hwb := h.w;have hil := List.idxOf_lt_length_of_mem hid;have hil2 : (idsN N).idxOf id < N.nd.length := by unfold idsN at hil ⊢; rw [List.length_map] at hil; exact hil
  obtain ⟨z,hz⟩ : ∃ z,N.nd[(idsN N).idxOf id]? = some z := ⟨_,List.getElem?_eq_getElem hil2⟩
  have hgz : N.nd.getD ((idsN N).idxOf id) nd0 = z := by rw [List.getD_eq_getElem?_getD,hz]; rfl
  have hzb := h.n _ z hz;have hby := byL_get (nb := nb) hn hil;rw [List.getElem_idxOf hil] at hby;have hof : (!offOf N id) = z.on := by unfold offOf; rw [hgz,Bool.not_not]
  refine ZaB Tryz.func82 rfl rfl Tryz.ntmps82 rfl rfl rfl fun F hF => (Zad ?_);refine Zab (goAs rfl rfl (Zac (Zad (Zab (Zaa.go (Zah rfl rfl rfl on98 rfl) (Zaa.go (Zax rfl rfl) (Zaa.go (Zav rfl fi108_2 rfl rfl rfl) (Zaa.go (ZaV (f := 40) rfl rfl (hwb) rfl on106 rfl) ?_))))))));refine o_rawMap 7 51 0 rfl rfl (goMv rfl rfl (Zaa.go (Zbw (byL nb (idsN N)) id (.pointer none) (pV (nb ((idsN N).idxOf id)) 0) rfl rfl rfl mt106 kt3 za103 hby rfl) (Zaa.go (Zax rfl rfl) (Zaa.go (Zav rfl Zb5 rfl rfl rfl) (Zaa.go (ZaV (f := 40) rfl rfl (hzb) rfl on4 rfl) (goAs rfl rfl (Zac (Zao ?_))))))));exact ⟨_,[910,40,50,51],_,Zak rfl,rfl,rfl,by rw [hof],rfl⟩
section
variable {P : Program} {F : Fr} {s : AS} {d : Nat} {x hi : Operand} {T E : TypeId} {ty : TypeId} {pos : String} {aft : Array Edge} {g : Option (Nat × Bool)}
theorem st_sliceHiN {b n cap kk : Nat} (h : Nat) {kh : IntKind} {ih : Int} (hx : s.ev x = some (.d (.raw (sV b n cap)))) (hhi : s.ev hi = some (.d (.raw (.int kh ih)))) (hh : ih = (h : Int)) (h2 : h ≤ cap) (hT : P.underlying T = some (.slice E)) (hE : sizeTy P E kk = true) (hd : Nat.blt d s.n = true) :
    Zaa P F ⟨some d, .slice T x none (some hi) none,ty,pos,aft,g⟩ s d (.d (.raw (sV b h cap))) :=
  ZaO _ hd fun _ act w hs => by
    have e := hs.raw hx;subst hh;refine ⟨.slice (if cap = 0 then some ⟨b,0,none⟩ else (some (⟨b,0,none⟩ : Addr)).map (·.add (0 * kk))) (h - 0) (cap - 0),by simp only [execOp,e,Option.map_some,Option.map_none,hs.raw hhi,Sem.run_bind,run_slice_hi hT (ZbN hE) h2,Result.andThen_ok,Sem.run_pure], ?_⟩
    have : Value.slice (if cap = 0 then some ⟨b,0,none⟩ else (some (⟨b,0,none⟩ : Addr)).map (·.add (0 * kk))) (h - 0) (cap - 0) = sV b h cap := by
      split <;> simp [Addr.add]
    rw [this];exact .d (.raw rfl)
end
def ixG {α : Type} (p : α → Bool) (l : List α) : Int := match l.findIdx? p with
  | some k => k
  | none => -1
theorem idx1_c {wb mv : Nat} {nb pb : Nat → Nat} {N : Net} {M : MF} (h : Rep wb mv nb pb N M) {hd : Hd} {q : List Nat} (hq : rowAt M hd 103 1 (q.map fun i => ptrD (nb i))) (hqn : ∀ i ∈ q,i < N.nd.length) (m : Nat) (hm : m ≤ q.length) (hql : q.length ≤ 100000) :
    ACalls Tryz.prog 48 [.d (hdr hd m), .d (.raw (.func (.func 81) #[] #[]))] (HN M) fun r H' => r = .d (intD (ixG (onN N) (q.take m))) ∧ H' = HN M := by
  have hz : hd = none → m = 0 := fun e => by have := Zbs hq e; omega
  have htl : (q.take m).length = m := by rw [List.length_take]; omega
  refine ZaB Tryz.func48 rfl rfl Tryz.ntmps48 rfl rfl rfl fun F hF => (Zad (Zab (goAs rfl rfl (Zac ?_))));refine Zad (Zad (Zab (goMv rfl rfl (Zaa.go (ZbV hz rfl Tryz.underlying104 rfl) (goMv rfl rfl (Zac (Zam (ZaK (α := Nat) (fun k => ⟨19,[(0, .d (hdr hd m)),(1, .d (.raw (.func (.func 81) #[] #[]))),(7,(.d (intD (m : Int)))),(8,(.d (intD (k : Int))))],HN M⟩) (fun k => k ≤ m ∧ ∀ x ∈ (q.take m).take k,onN N x = false) (fun k => m - k) (0) (⟨Nat.zero_le _,by simp⟩) (Zaq hF [40] rfl rfl ⟨rfl,rfl,rfl,rfl,trivial⟩) ?_))))))));rintro k ⟨hk0,hk⟩;refine Zad (Zab (Zaa.go (ZaI rfl rfl rfl) (Zac (Zad (ZaF rfl (fun h9 => ?_) (fun h9 => ?_))))))
  · have hk1 : k < m := ZaN h9;refine Zap (Zad (Zam (Zad ?_)));have hkq : k < q.length := by omega
    have hkt : k < (q.take m).length := by omega
    obtain ⟨rb,rc,hre⟩ := Zbr hq hkq;have hrow := Zby hq hre;have hil := hqn _ (List.getElem_mem hkq)
    obtain ⟨z,hz2⟩ : ∃ z,N.nd[q[k]]? = some z := ⟨_,List.getElem?_eq_getElem hil⟩
    have hal := alone1_c h hz2;have hon : onN N q[k] = z.on := by unfold onN; rw [List.getD_eq_getElem?_getD,hz2]; rfl
    refine Zab (goMv rfl rfl (goAs rfl rfl (Zac (Zad ?_))));refine Zab (goMv rfl rfl (goMv rfl rfl (goMv rfl rfl (Zaa.go (ZbB hre (k) rfl rfl rfl hk1 Tryz.underlying104 sz103 rfl) (Zaa.go (Zca (f := 40) (e := k) (off := 0) rfl (by omega) rfl (hrow) (getm hkq) rfl on103 rfl) (Zaj.go (st_callVD hal rfl [40] ⟨rfl,trivial⟩ rfl rfl rfl rfl rfl rfl rfl rfl rfl) (Zac (Zbm rfl (fun h16 => ?_) (fun h16 => ?_)))))))))
    · refine Zad (Zab (goMv rfl rfl (goAs rfl rfl (Zac (Zao ?_)))));exact ⟨_,[40],_,Zak rfl,rfl,rfl,retI (by unfold ixG; rw [fidx_at hkt hk (by rw [List.getElem_take,hon]; simpa using h16)]),rfl⟩
    · refine Zap (Zab (Zaa.go (Zay rfl rfl (wrapS (k + 1) (by omega)) rfl) (goMv rfl rfl (Zac ?_))));exact ⟨k + 1,⟨by show k + 1 ≤ _; omega,by rw [List.take_succ_eq_append_getElem hkt]; intro y hy; rcases List.mem_append.1 hy with hy | hy; exact hk y hy; rw [List.mem_singleton.1 hy,List.getElem_take]; rw [hon]; simpa using h16⟩,by show m - (k + 1) < m - k; omega,Zaq hF [40] rfl (rfl) ⟨rfl,rfl,rfl,rfl,trivial⟩⟩
  · refine ZaL (Zad (Zab (goAs rfl rfl (Zac (Zao ?_)))));exact ⟨_,[40],_,Zak rfl,rfl,rfl,retI (by unfold ixG; rw [fidx_no (fun x hx => hk x (by rw [List.take_of_length_le (by have h := h9; omega)]; exact hx))]),rfl⟩
theorem ixG_nn {α : Type} {p : α → Bool} {l : List α} : (ixG p l ≥ 0) ↔ l.any p = true := by
  unfold ixG
  cases h : l.findIdx? p with
  | none =>
    rw [List.findIdx?_eq_none_iff] at h
    constructor
    · intro h1;have h2 : (-1 : Int) ≥ 0 := h1;omega
    · intro h1;obtain ⟨x,hx,h2⟩ := List.any_eq_true.1 h1;rw [h x hx] at h2; cases h2
  | some k =>
    constructor
    · intro _;obtain ⟨hk,h1,_⟩ := List.findIdx?_eq_some_iff_getElem.1 h;exact List.any_eq_true.2 ⟨l[k],List.getElem_mem hk,h1⟩
    · intro _;show (k : Int) ≥ 0;omega
theorem cont1_c {wb mv : Nat} {nb pb : Nat → Nat} {N : Net} {M : MF} (h : Rep wb mv nb pb N M) {hd : Hd} {q : List Nat} (hq : rowAt M hd 103 1 (q.map fun i => ptrD (nb i))) (hqn : ∀ i ∈ q,i < N.nd.length) (m : Nat) (hm : m ≤ q.length) (hql : q.length ≤ 100000) :
    ACalls Tryz.prog 80 [.d (hdr hd m), .d (.raw (.func (.func 81) #[] #[]))] (HN M) fun r H' => r = .d (boolD ((q.take m).any (onN N))) ∧ H' = HN M := by
  refine ZaB Tryz.func80 rfl rfl Tryz.ntmps80 rfl rfl rfl fun F hF => (Zad (Zab (goAs rfl rfl (Zac ?_))));refine Zad (Zab (goMv rfl rfl (goMv rfl rfl (Zaj.go (Zbh (idx1_c h hq hqn m hm hql) rfl [40] ⟨rfl,trivial⟩ rfl rfl rfl rfl rfl rfl rfl rfl rfl) (Zaa.go (st_geq rfl rfl rfl) (goAs rfl rfl (Zac (Zao ?_))))))));exact ⟨_,[40],_,Zak rfl,rfl,rfl,retB3 (by rw [Bool.eq_iff_iff,decide_eq_true_eq]; exact ixG_nn),rfl⟩
theorem idx3_c {wb mv : Nat} {nb pb : Nat → Nat} {N : Net} {M : MF} (h : Rep wb mv nb pb N M) (hw : NetW N) {i : Nat} {x : Nd} (hx : N.nd[i]? = some x) :
    ACalls Tryz.prog 102 [.d (hdr x.eh x.ef.length), .d (.raw (.func (.func 84) #[] #[]))] (HN M) fun r H' => r = .d (intD (ixG (fun e : Nat × Int => ovP (N.po.getD e.1 po0) e.2) x.ef)) ∧ H' = HN M := by
  obtain ⟨hxb,hre,_⟩ := h.nn i x hx;have hxm := List.mem_of_getElem? hx;have hel := (hw.l x hxm).1;have hz := Zbs hre;refine ZaB Tryz.func102 rfl rfl Tryz.ntmps102 rfl rfl rfl fun F hF => (Zad (Zab (goAs rfl rfl (Zac ?_))));refine Zad (Zad (Zab (goMv rfl rfl (Zaa.go (ZbV hz rfl Tryz.underlying109 rfl) (goMv rfl rfl (Zac (Zam (ZaK (α := Nat) (fun k => ⟨19,[(0, .d (hdr x.eh x.ef.length)),(1, .d (.raw (.func (.func 84) #[] #[]))),(7,(.d (intD (x.ef.length : Int)))),(8,(.d (intD (k : Int))))],HN M⟩) (fun k => k ≤ x.ef.length ∧ ∀ e ∈ x.ef.take k,(fun e : Nat × Int => ovP (N.po.getD e.1 po0) e.2) e = false) (fun k => x.ef.length - k) (0) (⟨Nat.zero_le _,by simp⟩) (Zaq hF [40] rfl rfl ⟨rfl,rfl,rfl,rfl,trivial⟩) ?_))))))));rintro k ⟨hk0,hk⟩;refine Zad (Zab (Zaa.go (ZaI rfl rfl rfl) (Zac (Zad (ZaF rfl (fun h9 => ?_) (fun h9 => ?_))))))
  · have hk1 : k < x.ef.length := ZaN h9;refine Zap (Zad (Zam (Zad ?_)));obtain ⟨rb,rc,hree⟩ := Zbr hre hk1;have hrow := Zby hre hree;have hjl := (h.e x hxm).1 _ (List.getElem_mem hk1)
    obtain ⟨y,hy⟩ : ∃ y,N.po[x.ef[k].1]? = some y := ⟨_,List.getElem?_eq_getElem hjl⟩
    have hgy : N.po.getD x.ef[k].1 po0 = y := by rw [List.getD_eq_getElem?_getD,hy]; rfl
    have heb := hw.e x hxm _ (List.getElem_mem hk1);have hal := alone3_c h x.ef[k] hy (hw.rm y (List.mem_of_getElem? hy)) ⟨by omega,by omega⟩;refine Zab (goMv rfl rfl (goAs rfl rfl (Zac (Zad ?_))));refine Zab (goMv rfl rfl (goMv rfl rfl (goMv rfl rfl (Zaa.go (ZbB hree (k) rfl rfl rfl hk1 Tryz.underlying109 sz119 rfl) (Zaa.go (st_loadRNS (f := 40) (e := k) rfl (rfl) rfl (hrow) (getm hk1) rfl rw119 rfl) (Zaj.go (st_callVD hal rfl [40] ⟨rfl,trivial⟩ rfl rfl rfl rfl rfl rfl rfl rfl rfl) (Zac (ZaF rfl (fun h16 => ?_) (fun h16 => ?_)))))))))
    · refine Zad (Zab (goMv rfl rfl (goAs rfl rfl (Zac (Zao ?_)))));exact ⟨_,[40],_,Zak rfl,rfl,rfl,retI (by unfold ixG; rw [fidx_at hk1 hk (by show ovP (N.po.getD x.ef[k].1 po0) x.ef[k].2 = true; rw [hgy]; unfold ovP; exact decide_eq_true h16)]),rfl⟩
    · refine Zap (Zab (Zaa.go (Zay rfl rfl (wrapS (k + 1) (by omega)) rfl) (goMv rfl rfl (Zac ?_))));exact ⟨k + 1,⟨by show k + 1 ≤ _; omega,by rw [List.take_succ_eq_append_getElem hk1]; intro e he; rcases List.mem_append.1 he with he | he; exact hk e he; rw [List.mem_singleton.1 he]; show ovP (N.po.getD x.ef[k].1 po0) x.ef[k].2 = false; rw [hgy]; unfold ovP; exact decide_eq_false h16⟩,by show x.ef.length - (k + 1) < x.ef.length - k; omega,Zaq hF [40] rfl (rfl) ⟨rfl,rfl,rfl,rfl,trivial⟩⟩
  · refine ZaL (Zad (Zab (goAs rfl rfl (Zac (Zao ?_)))));exact ⟨_,[40],_,Zak rfl,rfl,rfl,retI (by unfold ixG; rw [fidx_no (fun e he => hk e (by rw [List.take_of_length_le (by have h := h9; omega)]; exact he))]),rfl⟩
theorem cont3_c {wb mv : Nat} {nb pb : Nat → Nat} {N : Net} {M : MF} (h : Rep wb mv nb pb N M) (hw : NetW N) {i : Nat} {x : Nd} (hx : N.nd[i]? = some x) :
    ACalls Tryz.prog 83 [.d (hdr x.eh x.ef.length), .d (.raw (.func (.func 84) #[] #[]))] (HN M) fun r H' => r = .d (boolD (x.ef.any fun e : Nat × Int => ovP (N.po.getD e.1 po0) e.2)) ∧ H' = HN M := by
  refine ZaB Tryz.func83 rfl rfl Tryz.ntmps83 rfl rfl rfl fun F hF => (Zad (Zab (goAs rfl rfl (Zac ?_))));refine Zad (Zab (goMv rfl rfl (goMv rfl rfl (Zaj.go (Zbh (idx3_c h hw hx) rfl [40] ⟨rfl,trivial⟩ rfl rfl rfl rfl rfl rfl rfl rfl rfl) (Zaa.go (st_geq rfl rfl rfl) (goAs rfl rfl (Zac (Zao ?_))))))));exact ⟨_,[40],_,Zak rfl,rfl,rfl,retB3 (by rw [Bool.eq_iff_iff,decide_eq_true_eq]; exact ixG_nn),rfl⟩
theorem idx2_c {wb mv : Nat} {nb pb : Nat → Nat} {N : Net} {M : MF} (bs : Option (List Nat × Nat)) (h : Rep wb mv nb pb N M) (hn : (idsN N).Nodup) (l : List Int) (hl : l.length ≤ 100000) (hid : ∀ id ∈ l,id ∈ idsN N) :
    ACalls Tryz.prog 90 [.d (.sl none (l.map intD)), .fn 82 [.ptr 910 0 0]] (HA wb mv bs (byL nb (idsN N)) M) fun r H' => r = .d (intD (ixG (fun id => !offOf N id) l)) ∧ H' = HA wb mv bs (byL nb (idsN N)) M := by
  obtain ⟨L,hL⟩ : ∃ L,byL nb (idsN N) = L := ⟨_,rfl⟩
  have ha := fun id hi => alone2_c (id := id) bs h hn hi;rw [hL] at ha ⊢;refine ZaB Tryz.func90 rfl rfl Tryz.ntmps90 rfl rfl rfl fun F hF => (Zad (Zab (goAs rfl rfl (Zac ?_))));refine Zad (Zad (Zab (goMv rfl rfl (Zaa.go (ZaA rfl Tryz.underlying28 rfl) (goMv rfl rfl (Zac (Zam (ZaK (α := Nat) (fun k => ⟨19,[(0, .d (.sl none (l.map intD))),(1, .fn 82 [.ptr 910 0 0]),(7,(.d (intD (l.length : Int)))),(8,(.d (intD (k : Int))))],HA wb mv bs L M⟩) (fun k => k ≤ l.length ∧ ∀ x ∈ l.take k,(fun id => !offOf N id) x = false) (fun k => l.length - k) (0) (⟨Nat.zero_le _,by simp⟩) (Zaq hF [910,40,50,51] rfl rfl ⟨rfl,rfl,rfl,rfl,trivial⟩) ?_))))))));rintro k ⟨hk0,hk⟩;refine Zad (Zab (Zaa.go (ZaI rfl rfl rfl) (Zac (Zad (ZaF rfl (fun h9 => ?_) (fun h9 => ?_))))))
  · have hk1 : k < l.length := ZaN h9;refine Zap (Zad (Zam (Zad (Zab (goMv rfl rfl (goAs rfl rfl (Zac (Zad ?_))))))));refine Zab (goMv rfl rfl (goMv rfl rfl (goMv rfl rfl (Zaa.go (Zat (k) rfl rfl (rfl) (getm hk1) Tryz.underlying28 rfl sz3 rfl) (Zaa.go (ZaE rfl rfl on3 rfl) (Zaj.go (st_callVD (ha l[k] (hid _ (List.getElem_mem hk1))) rfl [910,40,50,51] ⟨rfl,rfl,rfl,rfl,trivial⟩ rfl rfl rfl rfl rfl rfl rfl rfl rfl) (Zac (Zbm rfl (fun h16 => ?_) (fun h16 => ?_)))))))))
    · refine Zad (Zab (goMv rfl rfl (goAs rfl rfl (Zac (Zao ?_)))));exact ⟨_,[910,40,50,51],_,Zak rfl,rfl,rfl,retI (by unfold ixG; rw [fidx_at hk1 hk (by simpa using h16)]),rfl⟩
    · refine Zap (Zab (Zaa.go (Zay rfl rfl (wrapS (k + 1) (by omega)) rfl) (goMv rfl rfl (Zac ?_))));exact ⟨k + 1,⟨by show k + 1 ≤ _; omega,by rw [List.take_succ_eq_append_getElem hk1]; intro x hx; rcases List.mem_append.1 hx with hx | hx; exact hk x hx; rw [List.mem_singleton.1 hx]; simpa using h16⟩,by show l.length - (k + 1) < l.length - k; omega,Zaq hF [910,40,50,51] rfl (rfl) ⟨rfl,rfl,rfl,rfl,trivial⟩⟩
  · refine ZaL (Zad (Zab (goAs rfl rfl (Zac (Zao ?_)))));exact ⟨_,[910,40,50,51],_,Zak rfl,rfl,rfl,retI (by unfold ixG; rw [fidx_no (fun x hx => hk x (by rw [List.take_of_length_le (by have h := h9; omega)]; exact hx))]),rfl⟩
theorem cont2_c {wb mv : Nat} {nb pb : Nat → Nat} {N : Net} {M : MF} (bs : Option (List Nat × Nat)) (h : Rep wb mv nb pb N M) (hn : (idsN N).Nodup) (l : List Int) (hl : l.length ≤ 100000) (hid : ∀ id ∈ l,id ∈ idsN N) :
    ACalls Tryz.prog 64 [.d (.sl none (l.map intD)), .fn 82 [.ptr 910 0 0]] (HA wb mv bs (byL nb (idsN N)) M) fun r H' => r = .d (boolD (l.any fun id => !offOf N id)) ∧ H' = HA wb mv bs (byL nb (idsN N)) M := by
  refine ZaB Tryz.func64 rfl rfl Tryz.ntmps64 rfl rfl rfl fun F hF => (Zad (Zab (goAs rfl rfl (Zac ?_))));refine Zad (Zab (goMv rfl rfl (goMv rfl rfl (Zaj.go (Zbh (idx2_c bs h hn l hl hid) rfl [910,40,50,51] ⟨rfl,rfl,rfl,rfl,trivial⟩ rfl rfl rfl rfl rfl rfl rfl rfl rfl) (Zaa.go (st_geq rfl rfl rfl) (goAs rfl rfl (Zac (Zao ?_))))))));exact ⟨_,[910,40,50,51],_,Zak rfl,rfl,rfl,retB3 (by rw [Bool.eq_iff_iff,decide_eq_true_eq]; exact ixG_nn),rfl⟩
end Go.Proofs.YtneihdahboilnaaGreat
