/- Layer 30: feasible sets of items, and what is left after the largest one has settled. Plain laws. -/
import Derived.Test.YtneihdahboilnaaGreatMg25
namespace Go.Proofs.YtneihdahboilnaaGreat
open Go.RowKit
set_option maxRecDepth 100000
theorem Zcj {α β : Type} (f : α → β) (q : β → Bool) : ∀ l : List α,(l.map f).filter q = (l.filter fun a => q (f a)).map f
  | [] => rfl
  | a :: l => by
    rw [List.map_cons,List.filter_cons,List.filter_cons,Zcj f q l]
    split <;> rfl
theorem map_sum_congr {α : Type} {f g : α → Int} : ∀ {l : List α},(∀ x ∈ l,f x = g x) → (l.map f).sum = (l.map g).sum
  | [],_ => rfl
  | a :: l,h => by
    rw [List.map_cons,List.map_cons,List.sum_cons,List.sum_cons,h a List.mem_cons_self,map_sum_congr fun x hx => h x (List.mem_cons_of_mem _ hx)]
structure Chg (R : Int → Int → Prop) (l Y : List Roo) : Prop where
  len : Y.length = l.length
  at_ : ∀ (j : Nat) x y,l[j]? = some x → Y[j]? = some y → y.r = x.r ∧ -4 * Mx ≤ y.n ∧ y.n ≤ 4 * Mx ∧ R x.n y.n
theorem Chg.set {R : Int → Int → Prop} {l Y : List Roo} (h : Chg R l Y) {k : Nat} (hk : k < Y.length) {n : Int} (h1 : -4 * Mx ≤ n ∧ n ≤ 4 * Mx) (h2 : ∀ x,R x Y[k].n → R x n) : Chg R l (Y.set k ⟨Y[k].r,n⟩) :=
  ⟨by rw [List.length_set]; exact h.len,fun j x y hx hy => by
    rw [List.getElem?_set] at hy
    split at hy
    · rename_i e; subst e
      first | (rw [if_pos hk] at hy; injection hy with hy; subst hy) | (injection hy with hy; subst hy)
      have := h.at_ k x _ hx (List.getElem?_eq_getElem hk);exact ⟨this.1,h1.1,h1.2,h2 _ this.2.2.2⟩
    · exact h.at_ j x y hx hy⟩
theorem Chg.map {R : Int → Int → Prop} {l Y : List Roo} (h : Chg R l Y) : Y.map Roo.r = l.map Roo.r := by
  refine List.ext_getElem (by rw [List.length_map,List.length_map,h.len]) fun j h1 h2 => ?_;rw [List.length_map] at h1 h2;rw [List.getElem_map,List.getElem_map];exact (h.at_ j _ _ (List.getElem?_eq_getElem h2) (List.getElem?_eq_getElem h1)).1
theorem Chg.mem {R : Int → Int → Prop} {l Y : List Roo} (h : Chg R l Y) : ∀ y ∈ Y, ∃ x ∈ l,y.r = x.r ∧ -4 * Mx ≤ y.n ∧ y.n ≤ 4 * Mx ∧ R x.n y.n := fun y hy => by
  obtain ⟨j,hj,rfl⟩ := List.mem_iff_getElem.1 hy;have hj' : j < l.length := by rw [← h.len]; exact hj
  exact ⟨l[j],List.getElem_mem hj',h.at_ j _ _ (List.getElem?_eq_getElem hj') (List.getElem?_eq_getElem hj)⟩
theorem mx_v : Mx = 1000000000000000 := rfl
theorem Chg.b {R : Int → Int → Prop} {l Y : List Roo} (h : Chg R l Y) {k : Nat} (hk : k < Y.length) : -4000000000000000 ≤ Y[k].n ∧ Y[k].n ≤ 4000000000000000 := by
  obtain ⟨x,_,_,h2,h3,_⟩ := h.mem _ (List.getElem_mem hk);rw [mx_v] at h2 h3;exact ⟨by omega,by omega⟩
theorem nodup_take {l : List Int} (hn : l.Nodup) {j : Nat} (hj : j < l.length) : l[j] ∉ l.take j := fun h => by
  obtain ⟨i,hi,e⟩ := List.mem_take_iff_getElem.1 h;rw [List.Nodup,List.pairwise_iff_getElem] at hn;exact hn i j (by omega) hj (by omega) e
theorem aft_iff {i : Itm} : aftE i = 0 ↔ (∀ x ∈ i.af,(0 ≤ x ∧ x ≤ 1000000000) ∧ x ≠ i.id) ∧ i.af.Nodup := by
  unfold aftE;rw [ZbL]
  constructor
  · intro h
    have key : ∀ k (hk : k < i.af.length),(0 ≤ i.af[k] ∧ i.af[k] ≤ 1000000000) ∧ i.af[k] ≠ i.id ∧ i.af[k] ∉ i.af.take k := fun k hk => by
      have := h k (List.mem_range.2 hk);unfold aErr at this;rw [ZaH 0 hk] at this
      split at this
      · cases this
      · rename_i h1
        split at this
        · cases this
        · rename_i h2
          exact ⟨Decidable.not_not.1 h1,fun e => h2 (.inl e),fun e => h2 (.inr e)⟩
    refine ⟨fun x hx => ?_, ?_⟩
    · obtain ⟨k,hk,rfl⟩ := List.mem_iff_getElem.1 hx;exact ⟨(key k hk).1,(key k hk).2.1⟩
    · rw [List.Nodup,List.pairwise_iff_getElem];intro a b ha hb hab e;exact (key b hb).2.2 (List.mem_take_iff_getElem.2 ⟨a,by omega,e⟩)
  · rintro ⟨h1,h2⟩ k hk;have hk' := List.mem_range.1 hk;have h3 := h1 _ (List.getElem_mem hk');unfold aErr;rw [ZaH 0 hk',if_neg (fun h => h h3.1),if_neg];rintro (h | h)
    · exact h3.2 h
    · exact nodup_take h2 hk' h
theorem checkE_rest {i : Itm} (l : List Int) (h : checkE i = 0) : checkE (restI l i) = 0 := by
  obtain ⟨h1,h2,h3,h4,h5,h6,h7,h8,h9⟩ := check_ok h
  have ha : aftE (restI l i) = 0 := by
    obtain ⟨a1,a2⟩ := aft_iff.1 h7;exact aft_iff.2 ⟨fun x hx => a1 x (List.mem_filter.1 hx).1,List.Nodup.sublist List.filter_sublist a2⟩
  have hl : (kept l i.af).length ≤ i.af.length := List.length_filter_le _ _;have b1 := h1.po;have b2 := h1.pa;have b3 := h1.af;unfold checkE;rw [if_neg (by show ¬ (¬ (0 ≤ i.id ∧ i.id ≤ 1000000000) ∨ ¬ (0 ≤ i.sq ∧ i.sq ≤ 1000000000) ∨ ¬ (0 ≤ i.pr ∧ i.pr ≤ 2)); omega),if_neg (by show ¬ (256 < i.po.length ∨ 256 < i.pa.length ∨ 256 < (kept l i.af).length); omega)];show fst0 [postE i,payE i,aftE (restI l i),balE i,bndE i] = 0;rw [h5,h6,ha,h8,h9]; rfl
theorem mem_setlI {l : List Int} {its : List Itm} {j : Itm} : j ∈ setlI l its ↔ ∃ i ∈ its,i.id ∉ l ∧ restI l i = j := by
  unfold setlI;rw [List.mem_map]
  constructor
  · rintro ⟨i,hi,e⟩;obtain ⟨h1,h2⟩ := List.mem_filter.1 hi;exact ⟨i,h1,by simpa [inB] using h2,e⟩
  · rintro ⟨i,h1,h2,e⟩;exact ⟨i,List.mem_filter.2 ⟨h1,by simpa [inB] using h2⟩,e⟩
theorem setlI_ids (l : List Int) (its : List Itm) : (setlI l its).map Itm.id = (its.map Itm.id).filter fun x => !decide (x ∈ l) := by
  unfold setlI;rw [List.map_map,Zcj]; rfl
theorem setlI_sqs (l : List Int) (its : List Itm) : (setlI l its).map Itm.sq = (its.filter fun i => !inB l i).map Itm.sq := by
  unfold setlI;rw [List.map_map]; rfl
theorem mem_setl_ids {l : List Int} {its : List Itm} {x : Int} : x ∈ (setlI l its).map Itm.id ↔ x ∈ its.map Itm.id ∧ x ∉ l := by
  rw [setlI_ids,List.mem_filter]; simp
def sP (p : Prb) (l : List Int) : Prb := ⟨totR p l,setlI l p.it⟩
theorem itmOf_sP {p : Prb} {l : List Int} (hp : prbE p = 0) {y : Int} (hy : y ∈ (sP p l).it.map Itm.id) : itmOf (sP p l) y = restI l (itmOf p y) := by
  have hnd := items_ids (ZbO hp).2.1;obtain ⟨hk,_,e1,e2⟩ := itmOf_at hy
  have hm : itmOf (sP p l) y ∈ setlI l p.it := by
    rw [e1]; exact List.getElem_mem hk
  obtain ⟨i,hi,_,e3⟩ := mem_setlI.1 hm;have hy2 : y ∈ p.it.map Itm.id := (mem_setl_ids.1 hy).1;obtain ⟨hk2,_,e4,e5⟩ := itmOf_at hy2;have hid : i.id = y := by rw [← e2, ← e3]; rfl
  have : i = itmOf p y := ids_inj hnd hi (by rw [e4]; exact List.getElem_mem hk2) (by rw [hid,e5]);rw [← e3,this]
theorem dltE_rest {i : Itm} (l : List Int) (h : checkE i = 0) (r : Rsc) : dltE (restI l i) r = dltE i r := by
  unfold dltE;rw [checkE_rest l h,h]; rfl
theorem sort_sP {p : Prb} (l : List Int) (hp : prbE p = 0) : sortO (sP p l).it = ((sortO p.it).filter fun i => !inB l i).map (restI l) := by
  have hi := (ZbO hp).2.1;refine (ord_one ?_ ?_ ?_).symm
  · show ((setlI l p.it).map Itm.sq).Nodup;rw [setlI_sqs]; exact List.Nodup.sublist (List.filter_sublist.map _) (items_nodup hi)
  · exact ((Zbe p.it).filter _).map _
  · rw [List.pairwise_map];exact (List.Pairwise.sublist List.filter_sublist (sortO_sorted p.it)).imp fun h => h
theorem qIds_sP {p : Prb} (l : List Int) (hp : prbE p = 0) (r : Rsc) : qIds (sortO (sP p l).it) r = (qIds (sortO p.it) r).filter fun x => !decide (x ∈ l) := by
  rw [sort_sP l hp];unfold qIds;rw [Zcj,List.map_map,Zcj,List.filter_filter,List.filter_filter];have hid : (Itm.id ∘ restI l) = Itm.id := rfl;rw [hid]
  congr 1
  refine List.filter_congr fun i hi => ?_;have hm : i ∈ p.it := (Zbe p.it).mem_iff.1 hi;rw [dltE_rest l (items_check (ZbO hp).2.1 i hm)];exact Bool.and_comm _ _
def befQ (i : Int) (q : List Int) : List Int := if i ∈ q then q.takeWhile fun a => decide (a ≠ i) else []
theorem blkR_none {its : List Itm} {l : List Int} {id : Int} {x : Roo} : blkR its l id x = none ↔ ∀ a ∈ befQ id (qIds its x.r),a ∈ l := by
  unfold blkR befQ
  split
  · rw [Option.map_eq_none_iff,List.find?_eq_none];exact ⟨fun h a ha => by have := h a ha; simpa using this,fun h a ha => by have := h a ha; simpa using this⟩
  · simp
theorem blk_iff {p : Prb} {l : List Int} {id : Int} : blockR p l id = none ↔ (∀ x ∈ p.ro, ∀ a ∈ befQ id (qIds (sortO p.it) x.r),a ∈ l) ∧ ∀ a ∈ (itmOf p id).af,a ∈ l := by
  have h1 : (rosS p).findSome? (blkR (sortO p.it) l id) = none ↔ ∀ x ∈ p.ro, ∀ a ∈ befQ id (qIds (sortO p.it) x.r),a ∈ l := by
    rw [List.findSome?_eq_none_iff];exact ⟨fun h x hx => blkR_none.1 (h x ((rosS_perm p).mem_iff.2 hx)),fun h x hx => blkR_none.2 (h x ((rosS_perm p).mem_iff.1 hx))⟩
  have h2 : ((itmOf p id).af.find? fun a => decide (a ∉ l)) = none ↔ ∀ a ∈ (itmOf p id).af,a ∈ l := by
    rw [List.find?_eq_none];exact ⟨fun h a ha => by have := h a ha; simpa using this,fun h a ha => by have := h a ha; simpa using this⟩
  unfold blockR
  cases h3 : (rosS p).findSome? (blkR (sortO p.it) l id) with
  | some e =>
    constructor
    · intro h; cases h
    · intro h; have := h1.2 h.1; rw [h3] at this; cases this
  | none => 
    show (Option.map _ _) = none ↔ _;rw [Option.map_eq_none_iff,h2];exact ⟨fun h => ⟨h1.1 h3,h⟩,fun h => h.2⟩
theorem feas_iff {p : Prb} {l : List Int} : feasR p l ↔ (∀ id ∈ l,(∀ x ∈ p.ro, ∀ a ∈ befQ id (qIds (sortO p.it) x.r),a ∈ l) ∧ ∀ a ∈ (itmOf p id).af,a ∈ l) ∧ ∀ x ∈ p.ro,0 ≤ overL p.it x l := by
  unfold feasR;exact ⟨fun h => ⟨fun id hid => blk_iff.1 (h.1 id hid),fun x hx => by have := h.2 x hx; omega⟩,fun h => ⟨fun id hid => blk_iff.2 (h.1 id hid),fun x hx => by have := h.2 x hx; omega⟩⟩
theorem bef_in {i m : Int} {q : List Int} : m ∈ befQ i q → i ∈ q := fun h => by
  unfold befQ at h
  split at h
  · assumption
  · cases h
theorem bef_filter {i m : Int} {q : List Int} {f : Int → Bool} (h : m ∈ befQ i q) (hi : f i = true) (hm : f m = true) : m ∈ befQ i (q.filter f) := by
  have hq := bef_in h;unfold befQ at h ⊢;rw [if_pos hq] at h;rw [if_pos (List.mem_filter.2 ⟨hq,hi⟩)]
  clear hq
  induction q with
  | nil => cases h
  | cons a q ih =>
    rw [List.takeWhile_cons] at h
    split at h
    · rename_i ha
      rw [List.filter_cons]
      by_cases hfa : f a = true
      · rw [if_pos hfa,List.takeWhile_cons,if_pos ha];rcases List.mem_cons.1 h with e | h
        · rw [e]; exact List.mem_cons_self
        · exact List.mem_cons_of_mem _ (ih h)
      · rw [if_neg hfa];rcases List.mem_cons.1 h with e | h
        · exact absurd (e ▸ hm) hfa
        · exact ih h
    · cases h
theorem sum_disj (u S : List Int) (hd : ∀ x ∈ S,x ∉ u) (f : Itm → Int) : ∀ its : List Itm,((its.filter fun i => decide (i.id ∈ u ++ S)).map f).sum = ((its.filter fun i => decide (i.id ∈ u)).map f).sum + ((its.filter fun i => !decide (i.id ∈ u) && decide (i.id ∈ S)).map f).sum
  | [] => rfl
  | a :: l => by
    have ih := sum_disj u S hd f l;rw [List.filter_cons,List.filter_cons,List.filter_cons]
    by_cases h1 : a.id ∈ u
    · rw [decide_eq_true (show a.id ∈ u ++ S from List.mem_append.2 (.inl h1)),decide_eq_true h1];simp only [if_true,Bool.not_true,Bool.false_and,Bool.false_eq_true,if_false,List.map_cons,List.sum_cons];omega
    · by_cases h2 : a.id ∈ S
      · rw [decide_eq_true (show a.id ∈ u ++ S from List.mem_append.2 (.inr h2)),decide_eq_false h1,decide_eq_true h2];simp only [if_true,Bool.not_false,Bool.true_and,Bool.false_eq_true,if_false,List.map_cons,List.sum_cons];omega
      · rw [decide_eq_false (show ¬ a.id ∈ u ++ S from fun h => (List.mem_append.1 h).elim h1 h2),decide_eq_false h1,decide_eq_false h2];simp only [Bool.not_false,Bool.and_false,Bool.false_eq_true,if_false];exact ih
theorem dltE_ctr {p : Prb} (hp : prbE p = 0) {i : Itm} (hi : i ∈ p.it) {r : Rsc} (hr : validE r = 0) : dltE i r = ctrSum (ctr i) r := by
  unfold dltE;rw [if_pos ⟨items_check (ZbO hp).2.1 i hi,hr⟩]
theorem feas_rest {p : Prb} {u S : List Int} (hp : prbE p = 0) (hu : feasR p u) (hS : ∀ x ∈ S,x ∈ (sP p u).it.map Itm.id) (h : feasR (sP p u) S) : feasR p (u ++ S) := by
  have hS2 : ∀ x ∈ S,x ∈ p.it.map Itm.id ∧ x ∉ u := fun x hx => mem_setl_ids.1 (hS x hx);have hro : (sP p u).ro = totR p u := rfl;have hit : (sP p u).it = setlI u p.it := rfl;obtain ⟨u1,u2⟩ := feas_iff.1 hu;obtain ⟨s1,s2⟩ := feas_iff.1 h;refine feas_iff.2 ⟨fun id hid => ?_,fun x hx => ?_⟩
  · rcases List.mem_append.1 hid with hid | hid
    · exact ⟨fun x hx a ha => List.mem_append.2 (.inl ((u1 id hid).1 x hx a ha)),fun a ha => List.mem_append.2 (.inl ((u1 id hid).2 a ha))⟩
    · refine ⟨fun x hx a ha => ?_,fun a ha => ?_⟩
      · by_cases hau : a ∈ u
        · exact List.mem_append.2 (.inl hau)
        · refine List.mem_append.2 (.inr ((s1 id hid).1 ⟨x.r,x.n + totQ (p.it.filter (inB u)) x.r⟩ (by rw [hro]; exact List.mem_map.2 ⟨x,hx,rfl⟩) a ?_));rw [qIds_sP u hp];exact bef_filter ha (by simpa using (hS2 id hid).2) (by simpa using hau)
      · by_cases hau : a ∈ u
        · exact List.mem_append.2 (.inl hau)
        · refine List.mem_append.2 (.inr ((s1 id hid).2 a ?_));rw [itmOf_sP hp (hS id hid)];exact List.mem_filter.2 ⟨ha,by simpa [inS] using hau⟩
  · have hv := rooms_valid (ZbO hp).1 x hx;have k0 := u2 x hx;have k1 := s2 ⟨x.r,x.n + totQ (p.it.filter (inB u)) x.r⟩ (by rw [hro]; exact List.mem_map.2 ⟨x,hx,rfl⟩)
    have e1 : totQ (p.it.filter (inB u)) x.r = ((p.it.filter fun i => decide (i.id ∈ u)).map fun i => dltE i x.r).sum := by
      unfold totQ;refine map_sum_congr fun i hi => ?_;exact (dltE_ctr hp (List.mem_filter.1 hi).1 hv).symm
    have e2 : (((sP p u).it.filter fun i => decide (i.id ∈ S)).map fun i => dltE i x.r).sum = ((p.it.filter fun i => !decide (i.id ∈ u) && decide (i.id ∈ S)).map fun i => dltE i x.r).sum := by
      rw [hit];unfold setlI;rw [Zcj,List.filter_filter,List.map_map];have e3 : p.it.filter (fun a => decide ((restI u a).id ∈ S) && !inB u a) = p.it.filter fun i => !decide (i.id ∈ u) && decide (i.id ∈ S) := List.filter_congr fun i _ => Bool.and_comm _ _;rw [e3];refine map_sum_congr fun i hi => ?_;exact dltE_rest u (items_check (ZbO hp).2.1 i (List.mem_filter.1 hi).1) _
    unfold overL at k0 k1 ⊢;rw [sum_disj u S fun y hy => (hS2 y hy).2];dsimp only at k1;rw [e1,e2] at k1;omega
section
variable {P : Program} {F : Fr} {s : AS} {d : Nat} {ty : TypeId} {pos : String} {aft : Array Edge} {g : Option (Nat × Bool)} {at_ : Array TypeId}
end
def allL (p : Prb) : List Int := (sortO p.it).map Itm.id
def wthI (id : Int) (y : Itm) : Itm := ⟨y.id,y.pr,y.sq,y.po,y.pa,without y.af id⟩
def setI1 (id : Int) (its : List Itm) : List Itm := (its.filter fun y => decide (y.id ≠ id)).map (wthI id)
def set1 (p : Prb) (id : Int) : Prb := ⟨p.ro.map fun x => ⟨x.r,x.n + dltE (itmOf p id) x.r⟩,setI1 id p.it⟩
theorem setI1_snoc {id : Int} {its : List Itm} {k : Nat} (hk : k < its.length) : setI1 id (its.take (k + 1)) = setI1 id (its.take k) ++ if its[k].id = id then [] else [wthI id its[k]] := by
  unfold setI1;rw [flt_snoc hk,List.map_append]
  by_cases h : its[k].id = id
  · rw [if_pos h,if_neg (by simpa using h)]; rfl
  · rw [if_neg h,if_pos (by simpa using h)]; rfl
theorem setI1_len (id : Int) (its : List Itm) : (setI1 id its).length ≤ its.length := by
  unfold setI1;rw [List.length_map];exact List.length_filter_le _ _
theorem tk_mapA {α β : Type} {l : List α} {f : α → β} {k : Nat} (hk : k < l.length) {acc : List β} (h : acc = (l.take k).map f) : acc ++ [f l[k]] = (l.take (k + 1)).map f := by
  rw [List.take_succ_eq_append_getElem hk,List.map_append,h]; rfl
set_option maxHeartbeats 1000000 in
theorem set1_p (p : Prb) (hf : FewP p) (hrn : ∀ x ∈ p.ro, -100000000000000000 ≤ x.n ∧ x.n ≤ 100000000000000000) (id : Int) (hid : id ∈ p.it.map Itm.id) : PCalls Tryz.prog 51 [.d (prbD p), .d (intD id)] (prbD (set1 p id)) := by
  have hfi := hf.i;have hfr := hf.r;obtain ⟨hfk,hfx,hfe,hfid⟩ := itmOf_at hid;have hfd := find_p p id (by omega);rw [hfx] at hfd;have hxm : itmOf p id ∈ p.it := by rw [hfe]; exact List.getElem_mem hfk
  have hgm : (p.it.map itmD)[List.idxOf id (p.it.map Itm.id)]? = some (itmD (itmOf p id)) := by rw [getm hfk,hfe]
  have hxf := hf.x _ hxm;have hset : set1 p id = ⟨p.ro.map fun x => ⟨x.r,x.n + dltE (itmOf p id) x.r⟩,setI1 id p.it⟩ := rfl;rw [hset]
  obtain ⟨X,hX⟩ : ∃ X,itmOf p id = X := ⟨_,rfl⟩
  rw [hX] at hgm hxf ⊢;refine ZaB Tryz.func51 rfl rfl Tryz.ntmps51 rfl rfl rfl fun F hF => (Zad (Zab (Zaj.go (ZaS 1 rfl rfl rfl rfl rfl rfl rfl) (Zaj.go (ZaQ 2 zl25 rfl rfl rfl rfl) (Zac (Zad (ZaT [[],[0],[],[],[2,3],[0,1,2,3,4],[0,1,2,3,4,5],[],[0,1,2,3,4,5,6,7]] mixed rfl (dws ?_))))))))
  first | refine Zaf [2] [] rfl rfl (fun _ => Zae (Zag rfl Za3 rfl rfl rfl)) ?_ | refine Zan [2] rfl rfl (fun _ => Zae (Zag rfl Za3 rfl rfl rfl)) ?_ | refine Zaf [2] [] rfl rfl (fun _ => Zae (ZaJ rfl Za3 rfl rfl rfl)) ?_ | refine Zan [2] rfl rfl (fun _ => Zae (ZaJ rfl Za3 rfl rfl rfl)) ?_ | refine Zaf [2] [] rfl rfl (fun _ => Zae (ZaM rfl Za3 rfl rfl rfl)) ?_ | refine Zan [2] rfl rfl (fun _ => Zae (ZaM rfl Za3 rfl rfl rfl)) ?_ | refine Zaf [2] [] rfl rfl (fun _ => Zae (Za1 rfl Za3 rfl rfl rfl)) ?_ | refine Zan [2] rfl rfl (fun _ => Zae (Za1 rfl Za3 rfl rfl rfl)) ?_ | refine Zaf [2] [] rfl rfl (fun _ => Zae (Zav rfl Za3 rfl rfl rfl)) ?_ | refine Zan [2] rfl rfl (fun _ => Zae (Zav rfl Za3 rfl rfl rfl)) ?_
  first | refine Zaf [10] [1] rfl rfl (fun _ => Zae (ZaE rfl rfl on23 rfl)) ?_ | refine Zaf [10] [1] rfl rfl (fun _ => Zae (Zah rfl rfl rfl on23 rfl)) ?_ | refine Zaf [10] [1] rfl rfl (fun _ => Zae (Zbl rfl rfl (rfl) rfl on23 rfl)) ?_
  first | refine Zaf [2] [1] rfl rfl (fun _ => Zae (ZaC rfl rfl rw25 rfl)) ?_ | refine Zaf [2] [1] rfl rfl (fun _ => Zae (Zas rfl rfl rw25 rfl rfl rfl)) ?_ | refine Zaf [2] [1] rfl rfl (fun _ => Zae (Zba rfl rfl (rfl) rfl rw25 rfl)) ?_
  first | refine Zaf [1] [] rfl rfl (fun _ => Zae (Zar rfl rfl)) ?_ | refine Zan [1] rfl rfl (fun _ => Zae (Zar rfl rfl)) ?_
  first | refine Zaf [12,13] [] rfl rfl (fun _ => Zae (Zau (hfd) rfl rfl)) ?_ | refine Zan [12,13] rfl rfl (fun _ => Zae (Zau (hfd) rfl rfl)) ?_
  first | refine Zaf [11,14] [] rfl rfl (fun _ => Zae (Zat (List.idxOf id (p.it.map Itm.id)) rfl rfl (rfl) (hgm) Tryz.underlying23 rfl sz64 rfl)) ?_ | refine Zan [11,14] rfl rfl (fun _ => Zae (Zat (List.idxOf id (p.it.map Itm.id)) rfl rfl (rfl) (hgm) Tryz.underlying23 rfl sz64 rfl)) ?_ | refine Zaf [11,14] [] rfl rfl (fun _ => Zae (ZbA (List.idxOf id (p.it.map Itm.id)) rfl rfl (rfl) (hgm) rfl Tryz.underlying23 sz64 rfl)) ?_ | refine Zan [11,14] rfl rfl (fun _ => Zae (ZbA (List.idxOf id (p.it.map Itm.id)) rfl rfl (rfl) (hgm) rfl Tryz.underlying23 sz64 rfl)) ?_
  first | refine Zaf [15] [] rfl rfl (fun _ => Zae (ZaC rfl rfl rw64 rfl)) ?_ | refine Zan [15] rfl rfl (fun _ => Zae (ZaC rfl rfl rw64 rfl)) ?_ | refine Zaf [15] [] rfl rfl (fun _ => Zae (Zas rfl rfl rw64 rfl rfl rfl)) ?_ | refine Zan [15] rfl rfl (fun _ => Zae (Zas rfl rfl rw64 rfl rfl rfl)) ?_ | refine Zaf [15] [] rfl rfl (fun _ => Zae (Zba rfl rfl (rfl) rfl rw64 rfl)) ?_ | refine Zan [15] rfl rfl (fun _ => Zae (Zba rfl rfl (rfl) rfl rw64 rfl)) ?_
  refine Zbf [] [3] [(5,_)] rfl rfl (fun _ => Za5 (ZaQ 3 zl64 rfl rfl rfl rfl)) (.inr ⟨5,_,rfl,rfl,rfl,rfl,rfl⟩) rfl rfl rfl rfl rfl (dwc 8 rfl rfl rfl (dw1 9 rfl rfl (Zaj.go (Zaz rfl rfl rfl rfl rfl rfl rfl sz64) (Zac ⟨rfl, ?_⟩))));refine dwe (Zad (Zab (Zaj.go (ZaQ 4 zl25 rfl rfl rfl rfl) ?_)));refine Zac (Zad (Zad (a_adoptC 4 0 0 901 sl22 rfl rfl rfl rfl rfl rfl rfl (Zab (goAs rfl rfl (Zac (Zam (ZaK (α := Nat × List Roo) (fun q => ⟨79,[(1, .d (intD id)),(2,(.ptr 1 0 0)),(4,(.ptr 2 0 0)),(5,(.ptr 3 0 0)),(6,(.ptr 4 0 0)),(7,(.d (intD (q.1 : Int))))],[(901,[.rowD 67 7 (q.2.map rooD)]),(1,[prbB2 25 p]),(2,[.blk 25 [nilC,nilC]]),(3,[itmB 64 X]),(4,[.blk 25 [.own 901 0 q.2.length,nilC]])]⟩) (fun q => q.1 ≤ p.ro.length ∧ q.2 = (p.ro.take q.1).map fun x => ⟨x.r,x.n + dltE X x.r⟩) (fun q => p.ro.length - q.1) ((0,[])) (⟨Nat.zero_le _,rfl⟩) (Zaq hF [901,1,2,3,4] rfl rfl ⟨rfl,rfl,rfl,rfl,rfl,rfl,trivial⟩) ?_))))))));rintro ⟨k,acc⟩ ⟨hk0,hA⟩;dsimp only at hk0 hA ⊢;refine Zad (Zad (Zab (goMv rfl rfl ?_)))
  first | refine Zaa.go (Zag rfl ZaY rfl rfl rfl) ?_ | refine Zaa.go (ZaJ rfl ZaY rfl rfl rfl) ?_ | refine Zaa.go (ZaM rfl ZaY rfl rfl rfl) ?_ | refine Zaa.go (Za1 rfl ZaY rfl rfl rfl) ?_ | refine Zaa.go (Zav rfl ZaY rfl rfl rfl) ?_
  first | refine Zaa.go (ZaE rfl rfl on22 rfl) ?_ | refine Zaa.go (Zah rfl rfl rfl on22 rfl) ?_ | refine Zaa.go (Zbl rfl rfl (rfl) rfl on22 rfl) ?_
  first | refine Zaa.go (ZaA rfl Tryz.underlying22 rfl) ?_ | refine Zaa.go (st_lenD rfl rfl Tryz.underlying22 rfl) ?_ | refine Zaa.go (st_lenO rfl Tryz.underlying22 rfl) ?_ | refine Zaa.go (st_lenSL rfl Tryz.underlying22 rfl) ?_ | refine Zaa.go (st_lenN rfl Tryz.underlying22 rfl) ?_ | refine Zaa.go (st_lenS rfl Tryz.underlying22 rfl) ?_
  first | refine Zaa.go (ZaI rfl rfl rfl) ?_ | refine Zaa.go (st_lssS rfl rfl rfl) ?_
  refine Zac ?_
  first | refine ZaF rfl (fun h21 => ?_) (fun h21 => ?_) | refine Zbm rfl (fun h21 => ?_) (fun h21 => ?_)
  · have hk1 : k < p.ro.length := ZaN h21;refine Zap (Zad (Zam ?_));have hal : acc.length ≤ 100 := by rw [hA,List.length_map,List.length_take]; omega
    have hdb := dltE_bnd X p.ro[k].r;have hnb := hrn _ (List.getElem_mem hk1);refine ZaT [[],[0],[],[2],[],[2,3,4],[2,3,4,5],[2,3,4,5,6],[],[8],[],[8,9,10],[8,9,10,11],[8,9,10,11,12],[],[],[15],[],[15,16,17],[15,16,17,18],[15,16,17,18,19],[14,15,16,17,18,19,20],[8,9,10,11,12,13,14,15,16,17,18,19,20,21],[2,3,4,5,6,7,8,9,10,11,12,13,14,15,16,17,18,19,20,21,22],[2,3,4,5,6,7,8,9,10,11,12,13,14,15,16,17,18,19,20,21,22,23],[0,1,2,3,4,5,6,7,8,9,10,11,12,13,14,15,16,17,18,19,20,21,22,23,24],[0,1,2,3,4,5,6,7,8,9,10,11,12,13,14,15,16,17,18,19,20,21,22,23,24,25],[0,1,2,3,4,5,6,7,8,9,10,11,12,13,14,15,16,17,18,19,20,21,22,23,24,25,26]] mixed rfl (dws ?_)
    first | refine Zaf [6] [] rfl rfl (fun _ => Zae (Zag rfl ZaY rfl rfl rfl)) ?_ | refine Zan [6] rfl rfl (fun _ => Zae (Zag rfl ZaY rfl rfl rfl)) ?_ | refine Zaf [6] [] rfl rfl (fun _ => Zae (ZaJ rfl ZaY rfl rfl rfl)) ?_ | refine Zan [6] rfl rfl (fun _ => Zae (ZaJ rfl ZaY rfl rfl rfl)) ?_ | refine Zaf [6] [] rfl rfl (fun _ => Zae (ZaM rfl ZaY rfl rfl rfl)) ?_ | refine Zan [6] rfl rfl (fun _ => Zae (ZaM rfl ZaY rfl rfl rfl)) ?_ | refine Zaf [6] [] rfl rfl (fun _ => Zae (Za1 rfl ZaY rfl rfl rfl)) ?_ | refine Zan [6] rfl rfl (fun _ => Zae (Za1 rfl ZaY rfl rfl rfl)) ?_ | refine Zaf [6] [] rfl rfl (fun _ => Zae (Zav rfl ZaY rfl rfl rfl)) ?_ | refine Zan [6] rfl rfl (fun _ => Zae (Zav rfl ZaY rfl rfl rfl)) ?_
    first | refine Zaf [24] [4] rfl rfl (fun _ => Zae (ZaE rfl rfl on22 rfl)) ?_ | refine Zaf [24] [4] rfl rfl (fun _ => Zae (Zah rfl rfl rfl on22 rfl)) ?_ | refine Zaf [24] [4] rfl rfl (fun _ => Zae (Zbl rfl rfl (rfl) rfl on22 rfl)) ?_
    first | refine Zaf [2] [] rfl rfl (fun _ => Zae (Zag rfl ZaY rfl rfl rfl)) ?_ | refine Zan [2] rfl rfl (fun _ => Zae (Zag rfl ZaY rfl rfl rfl)) ?_ | refine Zaf [2] [] rfl rfl (fun _ => Zae (ZaJ rfl ZaY rfl rfl rfl)) ?_ | refine Zan [2] rfl rfl (fun _ => Zae (ZaJ rfl ZaY rfl rfl rfl)) ?_ | refine Zaf [2] [] rfl rfl (fun _ => Zae (ZaM rfl ZaY rfl rfl rfl)) ?_ | refine Zan [2] rfl rfl (fun _ => Zae (ZaM rfl ZaY rfl rfl rfl)) ?_ | refine Zaf [2] [] rfl rfl (fun _ => Zae (Za1 rfl ZaY rfl rfl rfl)) ?_ | refine Zan [2] rfl rfl (fun _ => Zae (Za1 rfl ZaY rfl rfl rfl)) ?_ | refine Zaf [2] [] rfl rfl (fun _ => Zae (Zav rfl ZaY rfl rfl rfl)) ?_ | refine Zan [2] rfl rfl (fun _ => Zae (Zav rfl ZaY rfl rfl rfl)) ?_
    first | refine Zaf [26] [1] rfl rfl (fun _ => Zae (ZaE rfl rfl on22 rfl)) ?_ | refine Zaf [26] [1] rfl rfl (fun _ => Zae (Zah rfl rfl rfl on22 rfl)) ?_ | refine Zaf [26] [1] rfl rfl (fun _ => Zae (Zbl rfl rfl (rfl) rfl on22 rfl)) ?_
    first | refine Zaf [7] [] rfl rfl (fun _ => Zae (Zar rfl rfl)) ?_ | refine Zan [7] rfl rfl (fun _ => Zae (Zar rfl rfl)) ?_
    first | refine Zaf [27,28] [] rfl rfl (fun _ => Zae (Zat (k) rfl rfl (rfl) (getm hk1) Tryz.underlying22 rfl sz67 rfl)) ?_ | refine Zan [27,28] rfl rfl (fun _ => Zae (Zat (k) rfl rfl (rfl) (getm hk1) Tryz.underlying22 rfl sz67 rfl)) ?_ | refine Zaf [27,28] [] rfl rfl (fun _ => Zae (ZbA (k) rfl rfl (rfl) (getm hk1) rfl Tryz.underlying22 sz67 rfl)) ?_ | refine Zan [27,28] rfl rfl (fun _ => Zae (ZbA (k) rfl rfl (rfl) (getm hk1) rfl Tryz.underlying22 sz67 rfl)) ?_
    first | refine Zaf [29] [] rfl rfl (fun _ => Zae (Zag rfl Zbo rfl rfl rfl)) ?_ | refine Zan [29] rfl rfl (fun _ => Zae (Zag rfl Zbo rfl rfl rfl)) ?_ | refine Zaf [29] [] rfl rfl (fun _ => Zae (ZaJ rfl Zbo rfl rfl rfl)) ?_ | refine Zan [29] rfl rfl (fun _ => Zae (ZaJ rfl Zbo rfl rfl rfl)) ?_ | refine Zaf [29] [] rfl rfl (fun _ => Zae (ZaM rfl Zbo rfl rfl rfl)) ?_ | refine Zan [29] rfl rfl (fun _ => Zae (ZaM rfl Zbo rfl rfl rfl)) ?_ | refine Zaf [29] [] rfl rfl (fun _ => Zae (Za1 rfl Zbo rfl rfl rfl)) ?_ | refine Zan [29] rfl rfl (fun _ => Zae (Za1 rfl Zbo rfl rfl rfl)) ?_ | refine Zaf [29] [] rfl rfl (fun _ => Zae (Zav rfl Zbo rfl rfl rfl)) ?_ | refine Zan [29] rfl rfl (fun _ => Zae (Zav rfl Zbo rfl rfl rfl)) ?_
    first | refine Zaf [30] [] rfl rfl (fun _ => Zae (ZaC rfl rfl rw56 rfl)) ?_ | refine Zan [30] rfl rfl (fun _ => Zae (ZaC rfl rfl rw56 rfl)) ?_ | refine Zaf [30] [] rfl rfl (fun _ => Zae (Zas rfl rfl rw56 rfl rfl rfl)) ?_ | refine Zan [30] rfl rfl (fun _ => Zae (Zas rfl rfl rw56 rfl rfl rfl)) ?_ | refine Zaf [30] [] rfl rfl (fun _ => Zae (Zba rfl rfl (rfl) rfl rw56 rfl)) ?_ | refine Zan [30] rfl rfl (fun _ => Zae (Zba rfl rfl (rfl) rfl rw56 rfl)) ?_
    first | refine Zaf [2] [] rfl rfl (fun _ => Zae (Zag rfl ZaY rfl rfl rfl)) ?_ | refine Zan [2] rfl rfl (fun _ => Zae (Zag rfl ZaY rfl rfl rfl)) ?_ | refine Zaf [2] [] rfl rfl (fun _ => Zae (ZaJ rfl ZaY rfl rfl rfl)) ?_ | refine Zan [2] rfl rfl (fun _ => Zae (ZaJ rfl ZaY rfl rfl rfl)) ?_ | refine Zaf [2] [] rfl rfl (fun _ => Zae (ZaM rfl ZaY rfl rfl rfl)) ?_ | refine Zan [2] rfl rfl (fun _ => Zae (ZaM rfl ZaY rfl rfl rfl)) ?_ | refine Zaf [2] [] rfl rfl (fun _ => Zae (Za1 rfl ZaY rfl rfl rfl)) ?_ | refine Zan [2] rfl rfl (fun _ => Zae (Za1 rfl ZaY rfl rfl rfl)) ?_ | refine Zaf [2] [] rfl rfl (fun _ => Zae (Zav rfl ZaY rfl rfl rfl)) ?_ | refine Zan [2] rfl rfl (fun _ => Zae (Zav rfl ZaY rfl rfl rfl)) ?_
    first | refine Zaf [32] [1] rfl rfl (fun _ => Zae (ZaE rfl rfl on22 rfl)) ?_ | refine Zaf [32] [1] rfl rfl (fun _ => Zae (Zah rfl rfl rfl on22 rfl)) ?_ | refine Zaf [32] [1] rfl rfl (fun _ => Zae (Zbl rfl rfl (rfl) rfl on22 rfl)) ?_
    first | refine Zaf [7] [] rfl rfl (fun _ => Zae (Zar rfl rfl)) ?_ | refine Zan [7] rfl rfl (fun _ => Zae (Zar rfl rfl)) ?_
    first | refine Zaf [33,34] [] rfl rfl (fun _ => Zae (Zat (k) rfl rfl (rfl) (getm hk1) Tryz.underlying22 rfl sz67 rfl)) ?_ | refine Zan [33,34] rfl rfl (fun _ => Zae (Zat (k) rfl rfl (rfl) (getm hk1) Tryz.underlying22 rfl sz67 rfl)) ?_ | refine Zaf [33,34] [] rfl rfl (fun _ => Zae (ZbA (k) rfl rfl (rfl) (getm hk1) rfl Tryz.underlying22 sz67 rfl)) ?_ | refine Zan [33,34] rfl rfl (fun _ => Zae (ZbA (k) rfl rfl (rfl) (getm hk1) rfl Tryz.underlying22 sz67 rfl)) ?_
    first | refine Zaf [35] [] rfl rfl (fun _ => Zae (Zag rfl fi67_1 rfl rfl rfl)) ?_ | refine Zan [35] rfl rfl (fun _ => Zae (Zag rfl fi67_1 rfl rfl rfl)) ?_ | refine Zaf [35] [] rfl rfl (fun _ => Zae (ZaJ rfl fi67_1 rfl rfl rfl)) ?_ | refine Zan [35] rfl rfl (fun _ => Zae (ZaJ rfl fi67_1 rfl rfl rfl)) ?_ | refine Zaf [35] [] rfl rfl (fun _ => Zae (ZaM rfl fi67_1 rfl rfl rfl)) ?_ | refine Zan [35] rfl rfl (fun _ => Zae (ZaM rfl fi67_1 rfl rfl rfl)) ?_ | refine Zaf [35] [] rfl rfl (fun _ => Zae (Za1 rfl fi67_1 rfl rfl rfl)) ?_ | refine Zan [35] rfl rfl (fun _ => Zae (Za1 rfl fi67_1 rfl rfl rfl)) ?_ | refine Zaf [35] [] rfl rfl (fun _ => Zae (Zav rfl fi67_1 rfl rfl rfl)) ?_ | refine Zan [35] rfl rfl (fun _ => Zae (Zav rfl fi67_1 rfl rfl rfl)) ?_
    first | refine Zaf [36] [] rfl rfl (fun _ => Zae (ZaE rfl rfl on2 rfl)) ?_ | refine Zan [36] rfl rfl (fun _ => Zae (ZaE rfl rfl on2 rfl)) ?_ | refine Zaf [36] [] rfl rfl (fun _ => Zae (Zah rfl rfl rfl on2 rfl)) ?_ | refine Zan [36] rfl rfl (fun _ => Zae (Zah rfl rfl rfl on2 rfl)) ?_ | refine Zaf [36] [] rfl rfl (fun _ => Zae (Zbl rfl rfl (rfl) rfl on2 rfl)) ?_ | refine Zan [36] rfl rfl (fun _ => Zae (Zbl rfl rfl (rfl) rfl on2 rfl)) ?_
    first | refine Zaf [5] [3] rfl rfl (fun _ => Zae (ZaC rfl rfl rw64 rfl)) ?_ | refine Zaf [5] [3] rfl rfl (fun _ => Zae (Zas rfl rfl rw64 rfl rfl rfl)) ?_ | refine Zaf [5] [3] rfl rfl (fun _ => Zae (Zba rfl rfl (rfl) rfl rw64 rfl)) ?_
    first | refine Zaf [2] [] rfl rfl (fun _ => Zae (Zag rfl ZaY rfl rfl rfl)) ?_ | refine Zan [2] rfl rfl (fun _ => Zae (Zag rfl ZaY rfl rfl rfl)) ?_ | refine Zaf [2] [] rfl rfl (fun _ => Zae (ZaJ rfl ZaY rfl rfl rfl)) ?_ | refine Zan [2] rfl rfl (fun _ => Zae (ZaJ rfl ZaY rfl rfl rfl)) ?_ | refine Zaf [2] [] rfl rfl (fun _ => Zae (ZaM rfl ZaY rfl rfl rfl)) ?_ | refine Zan [2] rfl rfl (fun _ => Zae (ZaM rfl ZaY rfl rfl rfl)) ?_ | refine Zaf [2] [] rfl rfl (fun _ => Zae (Za1 rfl ZaY rfl rfl rfl)) ?_ | refine Zan [2] rfl rfl (fun _ => Zae (Za1 rfl ZaY rfl rfl rfl)) ?_ | refine Zaf [2] [] rfl rfl (fun _ => Zae (Zav rfl ZaY rfl rfl rfl)) ?_ | refine Zan [2] rfl rfl (fun _ => Zae (Zav rfl ZaY rfl rfl rfl)) ?_
    first | refine Zaf [39] [1] rfl rfl (fun _ => Zae (ZaE rfl rfl on22 rfl)) ?_ | refine Zaf [39] [1] rfl rfl (fun _ => Zae (Zah rfl rfl rfl on22 rfl)) ?_ | refine Zaf [39] [1] rfl rfl (fun _ => Zae (Zbl rfl rfl (rfl) rfl on22 rfl)) ?_
    first | refine Zaf [7] [] rfl rfl (fun _ => Zae (Zar rfl rfl)) ?_ | refine Zan [7] rfl rfl (fun _ => Zae (Zar rfl rfl)) ?_
    first | refine Zaf [40,41] [] rfl rfl (fun _ => Zae (Zat (k) rfl rfl (rfl) (getm hk1) Tryz.underlying22 rfl sz67 rfl)) ?_ | refine Zan [40,41] rfl rfl (fun _ => Zae (Zat (k) rfl rfl (rfl) (getm hk1) Tryz.underlying22 rfl sz67 rfl)) ?_ | refine Zaf [40,41] [] rfl rfl (fun _ => Zae (ZbA (k) rfl rfl (rfl) (getm hk1) rfl Tryz.underlying22 sz67 rfl)) ?_ | refine Zan [40,41] rfl rfl (fun _ => Zae (ZbA (k) rfl rfl (rfl) (getm hk1) rfl Tryz.underlying22 sz67 rfl)) ?_
    first | refine Zaf [42] [] rfl rfl (fun _ => Zae (Zag rfl Zbo rfl rfl rfl)) ?_ | refine Zan [42] rfl rfl (fun _ => Zae (Zag rfl Zbo rfl rfl rfl)) ?_ | refine Zaf [42] [] rfl rfl (fun _ => Zae (ZaJ rfl Zbo rfl rfl rfl)) ?_ | refine Zan [42] rfl rfl (fun _ => Zae (ZaJ rfl Zbo rfl rfl rfl)) ?_ | refine Zaf [42] [] rfl rfl (fun _ => Zae (ZaM rfl Zbo rfl rfl rfl)) ?_ | refine Zan [42] rfl rfl (fun _ => Zae (ZaM rfl Zbo rfl rfl rfl)) ?_ | refine Zaf [42] [] rfl rfl (fun _ => Zae (Za1 rfl Zbo rfl rfl rfl)) ?_ | refine Zan [42] rfl rfl (fun _ => Zae (Za1 rfl Zbo rfl rfl rfl)) ?_ | refine Zaf [42] [] rfl rfl (fun _ => Zae (Zav rfl Zbo rfl rfl rfl)) ?_ | refine Zan [42] rfl rfl (fun _ => Zae (Zav rfl Zbo rfl rfl rfl)) ?_
    first | refine Zaf [43] [] rfl rfl (fun _ => Zae (ZaC rfl rfl rw56 rfl)) ?_ | refine Zan [43] rfl rfl (fun _ => Zae (ZaC rfl rfl rw56 rfl)) ?_ | refine Zaf [43] [] rfl rfl (fun _ => Zae (Zas rfl rfl rw56 rfl rfl rfl)) ?_ | refine Zan [43] rfl rfl (fun _ => Zae (Zas rfl rfl rw56 rfl rfl rfl)) ?_ | refine Zaf [43] [] rfl rfl (fun _ => Zae (Zba rfl rfl (rfl) rfl rw56 rfl)) ?_ | refine Zan [43] rfl rfl (fun _ => Zae (Zba rfl rfl (rfl) rfl rw56 rfl)) ?_
    first | refine Zaf [38,44] [] rfl rfl (fun _ => Zae (Zau (refdelta_p X p.ro[k].r (by omega) (by omega) (by omega)) rfl rfl)) ?_ | refine Zan [38,44] rfl rfl (fun _ => Zae (Zau (refdelta_p X p.ro[k].r (by omega) (by omega) (by omega)) rfl rfl)) ?_
    first | refine Zaf [37,45] [] rfl rfl (fun _ => Zae (Zay rfl rfl (IntWalk.i64_in _ (by omega)) rfl)) ?_ | refine Zan [37,45] rfl rfl (fun _ => Zae (Zay rfl rfl (IntWalk.i64_in _ (by omega)) rfl)) ?_
    first | refine Zaf [31,46] [] rfl rfl (fun _ => Zae (Za0 zl67 pl67 rfl rfl rfl)) ?_ | refine Zan [31,46] rfl rfl (fun _ => Zae (Za0 zl67 pl67 rfl rfl rfl)) ?_
    refine Zbf [47] [50] [(48,_)] rfl rfl (fun _ => Za5 (ZaD 50 sl22 rfl rfl rfl rfl rfl rfl rfl rfl)) (.inr ⟨48,_,rfl,rfl,rfl,rfl,rfl⟩) rfl rfl rfl rfl rfl (dwc 25 rfl rfl rfl (dw1 26 rfl rfl ?_))
    first | refine Zaj.go (Zbc (acc) ([⟨p.ro[k].r,p.ro[k].n + dltE X p.ro[k].r⟩]) rfl rfl rfl rfl rfl rfl rfl rfl sl22 (by simp only [List.length_singleton]; omega) rfl rfl rfl rfl) ?_ | refine Zaj.go (Zbj (acc) ([⟨p.ro[k].r,p.ro[k].n + dltE X p.ro[k].r⟩]) rfl rfl rfl rfl rfl rfl (fun _ => rfl) sl22 (by simp only [List.length_singleton]; omega) rfl rfl rfl rfl) ?_
    refine Zac ⟨rfl, ?_⟩;refine dw1 27 rfl rfl ?_
    first | refine Zaa.go (Zag rfl ZaY rfl rfl rfl) ?_ | refine Zaa.go (ZaJ rfl ZaY rfl rfl rfl) ?_ | refine Zaa.go (ZaM rfl ZaY rfl rfl rfl) ?_ | refine Zaa.go (Za1 rfl ZaY rfl rfl rfl) ?_ | refine Zaa.go (Zav rfl ZaY rfl rfl rfl) ?_
    refine Zac ⟨rfl, ?_⟩;refine dw1 28 rfl rfl (Zaj.go (Zaz rfl rfl rfl rfl rfl rfl rfl sz22) (Zac ⟨rfl, ?_⟩));refine dwe (Zab (goMv rfl rfl (Zaa.go (Zay rfl rfl (wrapS (k + 1) (by omega)) rfl) (goAs rfl rfl (Zac ?_)))));exact ⟨(k + 1,acc ++ [⟨p.ro[k].r,p.ro[k].n + dltE X p.ro[k].r⟩]),⟨by show k + 1 ≤ _; omega,tk_mapA (f := fun x => (⟨x.r,x.n + dltE X x.r⟩ : Roo)) hk1 hA⟩,by show p.ro.length - (k + 1) < p.ro.length - k; omega,Zaq hF [901,1,2,3,4] rfl (rfl) ⟨rfl,rfl,rfl,rfl,rfl,rfl,trivial⟩⟩
  · refine ZaL (Zad (Zad ?_));have hacc : acc = p.ro.map fun x => ⟨x.r,x.n + dltE X x.r⟩ := by rw [hA,List.take_of_length_le (by have h := h21; omega)]
    subst hacc;refine Zci (ys := (p.ro.map fun x => (⟨x.r,x.n + dltE X x.r⟩ : Roo)).map rooD) 4 0 0 901 rfl rfl rfl (by simp) (List.take_of_length_le (by simp)) rfl rfl rfl rfl rfl rfl (a_adoptC 4 0 1 902 sl23 rfl rfl rfl rfl rfl rfl rfl (Zab (goAs rfl rfl (Zac (Zam (ZaK (α := Nat × List Itm) (fun q => ⟨79,[(1, .d (intD id)),(2,(.ptr 1 0 0)),(4,(.ptr 2 0 0)),(6,(.ptr 4 0 0)),(8,(.d (intD (q.1 : Int))))],[(902,[.rowD 64 6 (q.2.map itmD)]),(1,[prbB2 25 p]),(2,[.blk 25 [nilC,nilC]]),(4,[.blk 25 [.d (.sl none ((p.ro.map fun x => (⟨x.r,x.n + dltE X x.r⟩ : Roo)).map rooD)), .own 902 0 q.2.length]])]⟩) (fun q => q.1 ≤ p.it.length ∧ q.2 = setI1 id (p.it.take q.1)) (fun q => p.it.length - q.1) ((0,[])) (⟨Nat.zero_le _,rfl⟩) (Zaq hF [902,1,2,4] rfl rfl ⟨rfl,rfl,rfl,rfl,rfl,trivial⟩) ?_))))));rintro ⟨k,acc⟩ ⟨hk0,hA⟩;dsimp only at hk0 hA ⊢;refine Zad (Zad (Zab (goMv rfl rfl ?_)))
    first | refine Zaa.go (Zag rfl Za3 rfl rfl rfl) ?_ | refine Zaa.go (ZaJ rfl Za3 rfl rfl rfl) ?_ | refine Zaa.go (ZaM rfl Za3 rfl rfl rfl) ?_ | refine Zaa.go (Za1 rfl Za3 rfl rfl rfl) ?_ | refine Zaa.go (Zav rfl Za3 rfl rfl rfl) ?_
    first | refine Zaa.go (ZaE rfl rfl on23 rfl) ?_ | refine Zaa.go (Zah rfl rfl rfl on23 rfl) ?_ | refine Zaa.go (Zbl rfl rfl (rfl) rfl on23 rfl) ?_
    first | refine Zaa.go (ZaA rfl Tryz.underlying23 rfl) ?_ | refine Zaa.go (st_lenD rfl rfl Tryz.underlying23 rfl) ?_ | refine Zaa.go (st_lenO rfl Tryz.underlying23 rfl) ?_ | refine Zaa.go (st_lenSL rfl Tryz.underlying23 rfl) ?_ | refine Zaa.go (st_lenN rfl Tryz.underlying23 rfl) ?_ | refine Zaa.go (st_lenS rfl Tryz.underlying23 rfl) ?_
    first | refine Zaa.go (ZaI rfl rfl rfl) ?_ | refine Zaa.go (st_lssS rfl rfl rfl) ?_
    refine Zac ?_
    first | refine ZaF rfl (fun h55 => ?_) (fun h55 => ?_) | refine Zbm rfl (fun h55 => ?_) (fun h55 => ?_)
    · have hk1 : k < p.it.length := ZaN h55;refine Zap (Zad (Zam (Zad ?_)));have hal : acc.length ≤ 30 := by rw [hA]; have := setI1_len id (p.it.take k); rw [List.length_take] at this; omega
      have hif := hf.x _ (List.getElem_mem hk1);refine Zab ?_
      first | refine Zaa.go (Zag rfl Za3 rfl rfl rfl) ?_ | refine Zaa.go (ZaJ rfl Za3 rfl rfl rfl) ?_ | refine Zaa.go (ZaM rfl Za3 rfl rfl rfl) ?_ | refine Zaa.go (Za1 rfl Za3 rfl rfl rfl) ?_ | refine Zaa.go (Zav rfl Za3 rfl rfl rfl) ?_
      first | refine Zaa.go (ZaE rfl rfl on23 rfl) ?_ | refine Zaa.go (Zah rfl rfl rfl on23 rfl) ?_ | refine Zaa.go (Zbl rfl rfl (rfl) rfl on23 rfl) ?_
      refine goMv rfl rfl ?_
      first | refine Zaa.go (Zat (k) rfl rfl (rfl) (getm hk1) Tryz.underlying23 rfl sz64 rfl) ?_ | refine Zaa.go (ZbA (k) rfl rfl (rfl) (getm hk1) rfl Tryz.underlying23 sz64 rfl) ?_
      first | refine Zaa.go (ZaC rfl rfl rw64 rfl) ?_ | refine Zaa.go (Zas rfl rfl rw64 rfl rfl rfl) ?_ | refine Zaa.go (Zba rfl rfl (rfl) rfl rw64 rfl) ?_
      refine Zaj.go (ZaQ 6 zl64 rfl rfl rfl rfl) (Zaj.go (Zaz rfl rfl rfl rfl rfl rfl rfl sz64) (Zac (Zad (Zab ?_))))
      first | refine Zaa.go (Zag rfl fi64_0 rfl rfl rfl) ?_ | refine Zaa.go (ZaJ rfl fi64_0 rfl rfl rfl) ?_ | refine Zaa.go (ZaM rfl fi64_0 rfl rfl rfl) ?_ | refine Zaa.go (Za1 rfl fi64_0 rfl rfl rfl) ?_ | refine Zaa.go (Zav rfl fi64_0 rfl rfl rfl) ?_
      first | refine Zaa.go (ZaE rfl rfl on3 rfl) ?_ | refine Zaa.go (Zah rfl rfl rfl on3 rfl) ?_ | refine Zaa.go (Zbl rfl rfl (rfl) rfl on3 rfl) ?_
      refine goMv rfl rfl ?_
      first | refine Zaa.go (Zbi rfl rfl rfl) ?_ | refine Zaa.go (ZbU rfl rfl rfl) ?_ | refine Zaa.go (st_neqS rfl rfl rfl) ?_ | refine Zaa.go (st_neqB Tryz.underlying3 rfl rfl rfl) ?_ | refine Zaa.go (st_neqP Tryz.underlying3 rfl rfl rfl) ?_ | refine Zaa.go (st_neqN Tryz.underlying3 rfl rfl) ?_ | refine Zaa.go (st_neqF Tryz.underlying3 rfl rfl rfl) ?_ | refine Zaa.go (st_neqFN Tryz.underlying3 rfl rfl) ?_
      refine Zac ?_
      first | refine ZaF rfl (fun h66 => ?_) (fun h66 => ?_) | refine Zbm rfl (fun h66 => ?_) (fun h66 => ?_)
      · refine Zad (Zab ?_)
        first | refine Zaa.go (Zag rfl ZbG rfl rfl rfl) ?_ | refine Zaa.go (ZaJ rfl ZbG rfl rfl rfl) ?_ | refine Zaa.go (ZaM rfl ZbG rfl rfl rfl) ?_ | refine Zaa.go (Za1 rfl ZbG rfl rfl rfl) ?_ | refine Zaa.go (Zav rfl ZbG rfl rfl rfl) ?_
        first | refine Zaa.go (ZaE rfl rfl on28 rfl) ?_ | refine Zaa.go (Zah rfl rfl rfl on28 rfl) ?_ | refine Zaa.go (Zbl rfl rfl (rfl) rfl on28 rfl) ?_
        refine goMv rfl rfl (Zaa.go (Zau (without_p p.it[k].af id (by omega)) rfl rfl) ?_)
        first | refine Zaa.go (Zag rfl ZbG rfl rfl rfl) ?_ | refine Zaa.go (ZaJ rfl ZbG rfl rfl rfl) ?_ | refine Zaa.go (ZaM rfl ZbG rfl rfl rfl) ?_ | refine Zaa.go (Za1 rfl ZbG rfl rfl rfl) ?_ | refine Zaa.go (Zav rfl ZbG rfl rfl rfl) ?_
        refine Zaj.go (Zaz rfl rfl rfl rfl rfl rfl rfl sz28) (Zac (Zab ?_))
        first | refine Zaa.go (Zag rfl Za3 rfl rfl rfl) ?_ | refine Zaa.go (ZaJ rfl Za3 rfl rfl rfl) ?_ | refine Zaa.go (ZaM rfl Za3 rfl rfl rfl) ?_ | refine Zaa.go (Za1 rfl Za3 rfl rfl rfl) ?_ | refine Zaa.go (Zav rfl Za3 rfl rfl rfl) ?_
        first | refine Zaa.go (ZaE rfl rfl on23 rfl) ?_ | refine Zaa.go (Zah rfl rfl rfl on23 rfl) ?_ | refine Zaa.go (Zbl rfl rfl (rfl) rfl on23 rfl) ?_
        first | refine Zaa.go (ZaC rfl rfl rw64 rfl) ?_ | refine Zaa.go (Zas rfl rfl rw64 rfl rfl rfl) ?_ | refine Zaa.go (Zba rfl rfl (rfl) rfl rw64 rfl) ?_
        refine Zaj.go (ZaD 51 sl23 rfl rfl rfl rfl rfl rfl rfl rfl) ?_
        first | refine Zaj.go (Zbc (acc) ([wthI id p.it[k]]) rfl rfl rfl rfl rfl rfl rfl rfl sl23 (by simp only [List.length_singleton]; omega) rfl rfl rfl rfl) ?_ | refine Zaj.go (Zbj (acc) ([wthI id p.it[k]]) rfl rfl rfl rfl rfl rfl (fun _ => rfl) sl23 (by simp only [List.length_singleton]; omega) rfl rfl rfl rfl) ?_
        first | refine Zaa.go (Zag rfl Za3 rfl rfl rfl) ?_ | refine Zaa.go (ZaJ rfl Za3 rfl rfl rfl) ?_ | refine Zaa.go (ZaM rfl Za3 rfl rfl rfl) ?_ | refine Zaa.go (Za1 rfl Za3 rfl rfl rfl) ?_ | refine Zaa.go (Zav rfl Za3 rfl rfl rfl) ?_
        refine Zaj.go (Zaz rfl rfl rfl rfl rfl rfl rfl sz23) (Zac (Zab (goMv rfl rfl (Zaa.go (Zay rfl rfl (wrapS (k + 1) (by omega)) rfl) (goAs rfl rfl (Zac ?_))))));exact ⟨(k + 1,acc ++ [wthI id p.it[k]]),⟨by show k + 1 ≤ _; omega,by show _ = setI1 id (p.it.take (k + 1)); rw [setI1_snoc hk1,if_neg (by simpa using h66),hA]⟩,by show p.it.length - (k + 1) < p.it.length - k; omega,Zaq hF [902,1,2,4] rfl (rfl) ⟨rfl,rfl,rfl,rfl,rfl,trivial⟩⟩
      · refine Zap (Zab (goMv rfl rfl (Zaa.go (Zay rfl rfl (wrapS (k + 1) (by omega)) rfl) (goAs rfl rfl (Zac ?_)))));exact ⟨(k + 1,acc),⟨by show k + 1 ≤ _; omega,by show _ = setI1 id (p.it.take (k + 1)); rw [setI1_snoc hk1,if_pos (by simpa using h66),List.append_nil,hA]⟩,by show p.it.length - (k + 1) < p.it.length - k; omega,Zaq hF [902,1,2,4] rfl (rfl) ⟨rfl,rfl,rfl,rfl,rfl,trivial⟩⟩
    · refine ZaL (Zad ?_);have hac2 : acc = setI1 id p.it := by rw [hA,List.take_of_length_le (by have h := h55; omega)]
      subst hac2;refine Zci (ys := (setI1 id p.it).map itmD) 4 0 1 902 rfl rfl rfl (by simp) (List.take_of_length_le (by simp)) rfl rfl rfl rfl rfl rfl (Zab ?_)
      first | refine Zaa.go (ZaC rfl rfl rw25 rfl) ?_ | refine Zaa.go (Zas rfl rfl rw25 rfl rfl rfl) ?_ | refine Zaa.go (Zba rfl rfl (rfl) rfl rw25 rfl) ?_
      refine Zaj.go (Zaz rfl rfl rfl rfl rfl rfl rfl sz25) (Zac (Zao ?_));exact ⟨_,[],[],Zak rfl,rfl,rfl,rfl,rfl⟩
structure Mid (p : Prb) (b : Int) : Prop where
  f : FewP p
  r : (p.ro.map Roo.r).Nodup
  n : ∀ x ∈ p.ro, -b ≤ x.n ∧ x.n ≤ b
theorem Mid.set {p : Prb} {b : Int} (h : Mid p b) (id : Int) : Mid (set1 p id) (b + 1000000000000000) := by
  refine ⟨⟨?_, ?_,fun x hx => ?_⟩, ?_,fun x hx => ?_⟩
  · have := setI1_len id p.it;have h1 := h.f.i;show (setI1 id p.it).length ≤ 30; omega
  · show (p.ro.map _).length ≤ 100;rw [List.length_map]; exact h.f.r
  · obtain ⟨y,hy,rfl⟩ := List.mem_map.1 hx;have h1 := h.f.x y (List.mem_filter.1 hy).1;exact ⟨h1.1,h1.2.1,Nat.le_trans (List.length_filter_le _ _) h1.2.2⟩
  · show ((p.ro.map _).map Roo.r).Nodup;rw [List.map_map]; exact h.r
  · obtain ⟨y,hy,rfl⟩ := List.mem_map.1 hx;have h1 := h.n y hy;have h2 := dltE_bnd (itmOf p id) y.r;show -(b + 1000000000000000) ≤ y.n + dltE (itmOf p id) y.r ∧ y.n + dltE (itmOf p id) y.r ≤ b + 1000000000000000;omega
noncomputable def grossR : Nat → Prb → List Int
  | 0,_ => []
  | f + 1,p => match (allL p).find? fun id => decide (feasR p [id]) with
    | none => []
    | some id => id :: grossR f (set1 p id)
theorem set1_less {p : Prb} {id : Int} (h : id ∈ allL p) : (allL (set1 p id)).length + 1 ≤ (allL p).length := by
  have hid : id ∈ p.it.map Itm.id := ((Zbe p.it).map Itm.id).mem_iff.1 h;unfold allL;rw [List.length_map,List.length_map,ZbP,ZbP];show (setI1 id p.it).length + 1 ≤ _;unfold setI1;rw [List.length_map];obtain ⟨y,hy,e⟩ := List.mem_map.1 hid
  have h1 : (p.it.filter fun y => decide (y.id ≠ id)).length ≠ p.it.length := fun h2 => by
    have h3 := List.filter_sublist.eq_of_length h2;rw [← h3] at hy;have := (List.mem_filter.1 hy).2
    simp [e] at this
  have h2 := List.length_filter_le (fun y : Itm => decide (y.id ≠ id)) p.it;omega
structure GI (G : List Int) (p : Prb) (acc : List Int) (f : Nat) (ag : Bool) : Prop where
  m : Mid p (34000000000000000 - 1000000000000000 * (f : Int))
  l : (allL p).length ≤ f
  a : acc.length + f ≤ 30
  v : (ag = true → acc ++ grossR f p = G) ∧ (ag = false → acc = G)
def GJ (p : Prb) (acc : List Int) (i : Nat) (p2 : Prb) (acc2 : List Int) (ag : Bool) : Prop :=
  (ag = false ∧ p2 = p ∧ acc2 = acc ∧ ∀ id ∈ (allL p).take i, ¬ feasR p [id]) ∨ (ag = true ∧ ∃ id,(allL p).find? (fun id => decide (feasR p [id])) = some id ∧ p2 = set1 p id ∧ acc2 = acc ++ [id])
theorem grossR_none {f : Nat} {p : Prb} (h : (allL p).find? (fun id => decide (feasR p [id])) = none) : grossR f p = [] := by
  cases f with
  | zero => rfl
  | succ f => unfold grossR; rw [h]
theorem grossR_some {f : Nat} {p : Prb} {id : Int} (h : (allL p).find? (fun id => decide (feasR p [id])) = some id) : grossR (f + 1) p = id :: grossR f (set1 p id) := by
  show (match (allL p).find? (fun id => decide (feasR p [id])) with | none => _ | some id => _) = _;rw [h]
theorem gj_end {G : List Int} {p p2 : Prb} {acc acc2 : List Int} {f i : Nat} {ag : Bool} (h : GI G p acc f true) (hJ : GJ p acc i p2 acc2 ag) (he : ag = true ∨ ¬ i < (allL p).length) : GI G p2 acc2 (if ag = true then f - 1 else f) ag := by
  rcases hJ with ⟨rfl,rfl,rfl,hn⟩ | ⟨rfl,id,hf,rfl,rfl⟩
  · rcases he with he | he
    · cases he
    · rw [List.take_of_length_le (by omega)] at hn;have h1 := grossR_none (f := f) (Zcd (l := allL p2) (p := fun id => decide (feasR p2 [id])) fun x hx => decide_eq_false (hn x hx));have h2 := h.v.1 rfl;rw [h1,List.append_nil] at h2;exact ⟨h.m,h.l,h.a,⟨fun e => (by cases e),fun _ => h2⟩⟩
  · have hid := List.mem_of_find?_eq_some hf;have hl := h.l;have hs := set1_less hid
    obtain ⟨g,rfl⟩ : ∃ g,f = g + 1 := ⟨f - 1,by omega⟩
    have h2 := h.v.1 rfl;rw [grossR_some hf] at h2;have hm := h.m.set id;have ha := h.a;refine ⟨?_, ?_, ?_,⟨fun _ => ?_,fun e => (by cases e)⟩⟩
    · rw [if_pos rfl,Nat.add_sub_cancel];have e : (34000000000000000 - 1000000000000000 * ((g + 1 : Nat) : Int)) + 1000000000000000 = 34000000000000000 - 1000000000000000 * (g : Int) := by omega
      rw [e] at hm; exact hm
    · rw [if_pos rfl,Nat.add_sub_cancel]; omega
    · rw [if_pos rfl,Nat.add_sub_cancel,List.length_append]; simp; omega
    · rw [if_pos rfl,Nat.add_sub_cancel,List.append_assoc]; exact h2
theorem slice1 {α : Type} {l : List α} {i : Nat} (hi : i < l.length) : (l.drop i).take (i + 1 - i) = [l[i]] := by
  rw [show i + 1 - i = 1 by omega,List.drop_eq_getElem_cons hi]; rfl
theorem gj_pos {G : List Int} {p p2 : Prb} {acc acc2 : List Int} {f i : Nat} {ag : Bool} (h : GI G p acc f true) (hJ : GJ p acc i p2 acc2 ag) (he : ag = true) : 0 < f := by
  rcases hJ with ⟨h1,_⟩ | ⟨_,id,hf,_,_⟩
  · rw [he] at h1; cases h1
  · have := List.length_pos_of_mem (List.mem_of_find?_eq_some hf);have := h.l;omega
theorem gj_meas {G : List Int} {p p2 : Prb} {acc acc2 : List Int} {f i : Nat} {ag : Bool} (h : GI G p acc f true) (hJ : GJ p acc i p2 acc2 ag) : 2 * (if ag = true then f - 1 else f) + (if ag = true then 1 else 0) < 2 * f + 1 := by
  rcases Bool.eq_false_or_eq_true ag with e | e
  · have := gj_pos h hJ e;rw [if_pos e,if_pos e]; omega
  · rw [e]; simp
set_option maxHeartbeats 1000000 in
theorem gross30_p (p : Prb) (hm : Mid p 4000000000000000) : PCalls Tryz.prog 26 [.d (prbD p)] (.sl none ((grossR 30 p).map intD)) := by
  have hA0 : (allL p).length ≤ 30 := by unfold allL; rw [List.length_map,ZbP]; exact hm.f.i
  obtain ⟨G,hG⟩ : ∃ G,grossR 30 p = G := ⟨_,rfl⟩
  rw [hG];refine ZaB Tryz.func26 rfl rfl Tryz.ntmps26 rfl rfl rfl fun F hF => (Zad (Zab (Zaj.go (ZaS 1 rfl rfl rfl rfl rfl rfl rfl) (goAs rfl rfl (Zac (Zad (Zab (goAs rfl rfl ?_))))))));refine Zac (Zad (Zad (a_adopt 3 900 sl28 rfl rfl rfl rfl (Zab (goAs rfl rfl (Zac (Zam (ZaK (α := Prb × List Int × Nat × Bool) (fun q => ⟨41,[(1,(.ptr 1 0 0)),(3,(.own 900 0 q.2.1.length)),(4,(.d (boolD q.2.2.2)))],[(900,[.rowD 3 1 (q.2.1.map intD)]),(1,[prbB2 25 q.1])]⟩) (fun q => GI G q.1 q.2.1 q.2.2.1 q.2.2.2) (fun q => 2 * q.2.2.1 + (if q.2.2.2 = true then 1 else 0)) ((p,[],30,true)) (⟨⟨hm.f,hm.r,fun x hx => by have := hm.n x hx; show -(34000000000000000 - 1000000000000000 * ((30 : Nat) : Int)) ≤ x.n ∧ x.n ≤ 34000000000000000 - 1000000000000000 * ((30 : Nat) : Int); omega⟩,hA0,Nat.le_refl _,⟨fun _ => hG,fun e => (by cases e)⟩⟩) (Zaq hF [900,1] rfl rfl ⟨rfl,rfl,rfl,trivial⟩) ?_))))))));rintro ⟨p,acc,f,ag⟩ hI;dsimp only at hI ⊢;refine Zad (Zad (Zab (goMv rfl rfl (Zac ?_))))
  first | refine ZaF rfl (fun h7 => ?_) (fun h7 => ?_) | refine Zbm rfl (fun h7 => ?_) (fun h7 => ?_)
  · refine Zap (Zam (Zad ?_));have hag : ag = true := by simpa using h7
    subst hag;have hfi := hI.m.f.i;have co : PCalls Tryz.prog 33 [.d (prbD p)] (.sl none ((allL p).map intD)) := order30_p p (by omega);have hfb := hI.a;have cfe := fun l h1 h2 => feasible30_n p hI.m.f hI.m.r (fun x hx => by have := hI.m.n x hx; omega) l h1 h2;have cst := fun id h => set1_p p hI.m.f (fun x hx => by have := hI.m.n x hx; omega) id h;have hAl := hI.l;refine Zab (goAs rfl rfl (Zac (Zad (Zab ?_))))
    first | refine Zaa.go (ZaC rfl rfl rw25 rfl) ?_ | refine Zaa.go (Zas rfl rfl rw25 rfl rfl rfl) ?_ | refine Zaa.go (Zba rfl rfl (rfl) rfl rw25 rfl) ?_
    refine Zaa.go (Zau (co) rfl rfl) (goAs rfl rfl (Zac (Zad (Zab (goAs rfl rfl (Zac (Zam (ZaK (α := Nat × Prb × List Int × Bool) (fun q => ⟨41,[(1,(.ptr 1 0 0)),(3,(.own 900 0 q.2.2.1.length)),(4,(.d (boolD q.2.2.2))),(5,(.d (.sl none ((allL p).map intD)))),(6,(.d (intD (q.1 : Int))))],[(900,[.rowD 3 1 (q.2.2.1.map intD)]),(1,[prbB2 25 q.2.1])]⟩) (fun q => q.1 ≤ (allL p).length ∧ GJ p acc q.1 q.2.1 q.2.2.1 q.2.2.2) (fun q => (allL p).length - q.1) ((0,p,acc,false)) (⟨Nat.zero_le _, .inl ⟨rfl,rfl,rfl,by simp⟩⟩) (Zaq hF [900,1] rfl rfl ⟨rfl,rfl,rfl,rfl,rfl,trivial⟩) ?_))))))));rintro ⟨i,p2,acc2,ag2⟩ ⟨hi0,hJ⟩;dsimp only at hi0 hJ ⊢;refine Zad (Zad (Zab (goMv rfl rfl (goMv rfl rfl ?_))))
    first | refine Zaa.go (ZaA rfl Tryz.underlying28 rfl) ?_ | refine Zaa.go (st_lenD rfl rfl Tryz.underlying28 rfl) ?_ | refine Zaa.go (st_lenO rfl Tryz.underlying28 rfl) ?_ | refine Zaa.go (st_lenSL rfl Tryz.underlying28 rfl) ?_ | refine Zaa.go (st_lenN rfl Tryz.underlying28 rfl) ?_ | refine Zaa.go (st_lenS rfl Tryz.underlying28 rfl) ?_
    first | refine Zaa.go (ZaI rfl rfl rfl) ?_ | refine Zaa.go (st_lssS rfl rfl rfl) ?_
    by_cases hi : i < (allL p).length
    · refine goMv rfl rfl (o_setT 14 rfl ((decide_eq_true (by omega))) (Zal rfl rfl rfl (goMv rfl rfl (Zal rfl rfl rfl ?_))))
      first | refine Zaa.go (Zbq rfl rfl) ?_ | refine Zaa.go (st_not rfl rfl) ?_
      refine Zaa.go (Zaw rfl rfl rfl rfl) (Zac ?_)
      first | refine ZaF rfl (fun h17 => ?_) (fun h17 => ?_) | refine Zbm rfl (fun h17 => ?_) (fun h17 => ?_)
      · refine Zap (Zad (Zam (Zad ?_)));have hag2 : ag2 = false := by simpa using h17
        subst hag2;obtain ⟨hp2,hac2,hn⟩ : p = p2 ∧ acc = acc2 ∧ ∀ id ∈ (allL p).take i, ¬ feasR p [id] := by rcases hJ with ⟨_,h1,h2,h3⟩ | ⟨h,_⟩; exact ⟨h1.symm,h2.symm,h3⟩; cases h
        subst hp2 hac2;have hmi : (allL p)[i] ∈ p.it.map Itm.id := ((Zbe p.it).map Itm.id).mem_iff.1 (List.getElem_mem hi);have cfk : PCalls Tryz.prog 20 [.d (prbD p), .d (.sl none ((((allL p).drop i).take (i + 1 - i)).map intD))] (boolD (decide (feasR p [(allL p)[i]]))) := by rw [slice1 hi]; exact cfe [(allL p)[i]] (by simp) (by intro id h; rw [List.mem_singleton.1 h]; exact hmi)
        refine ZaT [[],[],[],[],[3],[1,2,3,4],[0,1,2,3,4,5]] mixed rfl (dws ?_)
        first | refine Zaf [1] [] rfl rfl (fun _ => Zae (ZaC rfl rfl rw25 rfl)) ?_ | refine Zan [1] rfl rfl (fun _ => Zae (ZaC rfl rfl rw25 rfl)) ?_ | refine Zaf [1] [] rfl rfl (fun _ => Zae (Zas rfl rfl rw25 rfl rfl rfl)) ?_ | refine Zan [1] rfl rfl (fun _ => Zae (Zas rfl rfl rw25 rfl rfl rfl)) ?_ | refine Zaf [1] [] rfl rfl (fun _ => Zae (Zba rfl rfl (rfl) rfl rw25 rfl)) ?_ | refine Zan [1] rfl rfl (fun _ => Zae (Zba rfl rfl (rfl) rfl rw25 rfl)) ?_
        first | refine Zaf [5] [] rfl rfl (fun _ => Zae (Zar rfl rfl)) ?_ | refine Zan [5] rfl rfl (fun _ => Zae (Zar rfl rfl)) ?_
        first | refine Zaf [6] [] rfl rfl (fun _ => Zae (Zar rfl rfl)) ?_ | refine Zan [6] rfl rfl (fun _ => Zae (Zar rfl rfl)) ?_
        first | refine Zaf [6] [] rfl rfl (fun _ => Zae (Zar rfl rfl)) ?_ | refine Zan [6] rfl rfl (fun _ => Zae (Zar rfl rfl)) ?_
        first | refine Zaf [23] [] rfl rfl (fun _ => Zae (Zay rfl rfl (wrapS (i + 1) (by omega)) rfl)) ?_ | refine Zan [23] rfl rfl (fun _ => Zae (Zay rfl rfl (wrapS (i + 1) (by omega)) rfl)) ?_
        first | refine Zaf [21,22,24] [] rfl rfl (fun _ => Zae (st_slice3M ((allL p)) (i) (i + 1) rfl rfl rfl rfl (rfl) (rfl) (by omega) (by omega) Tryz.underlying28 sz3 (fun _ => rfl) rfl)) ?_ | refine Zan [21,22,24] rfl rfl (fun _ => Zae (st_slice3M ((allL p)) (i) (i + 1) rfl rfl rfl rfl (rfl) (rfl) (by omega) (by omega) Tryz.underlying28 sz3 (fun _ => rfl) rfl)) ?_
        refine dwc 6 rfl rfl rfl (dw1 7 rfl rfl (Zaa.go (Zau (cfk) rfl rfl) (Zac ⟨rfl, ?_⟩)));refine dwe ?_
        first | refine ZaF rfl (fun h26 => ?_) (fun h26 => ?_) | refine Zbm rfl (fun h26 => ?_) (fun h26 => ?_)
        · refine ZaT [[],[],[],[1,2],[1,2,3],[1,2,3,4],[0,1,2,3,4,5],[],[],[],[8,9],[8,9,10],[0,1,2,3,4,5,6,7,8,9,10,11],[0,1,2,3,4,5,6,7,8,9,10,11,12],[0,1,2,3,4,5,6,7,8,9,10,11,12,13],[0,1,2,3,4,5,6,7,8,9,10,11,12,13,14]] mixed rfl (dws ?_)
          first | refine Zaf [3] [] rfl rfl (fun _ => Zae (Zar rfl rfl)) ?_ | refine Zan [3] rfl rfl (fun _ => Zae (Zar rfl rfl)) ?_
          first | refine Zaf [5] [] rfl rfl (fun _ => Zae (Zar rfl rfl)) ?_ | refine Zan [5] rfl rfl (fun _ => Zae (Zar rfl rfl)) ?_
          first | refine Zaf [6] [] rfl rfl (fun _ => Zae (Zar rfl rfl)) ?_ | refine Zan [6] rfl rfl (fun _ => Zae (Zar rfl rfl)) ?_
          first | refine Zaf [28,29] [] rfl rfl (fun _ => Zae (Zat (i) rfl rfl (rfl) (getm hi) Tryz.underlying28 rfl sz3 rfl)) ?_ | refine Zan [28,29] rfl rfl (fun _ => Zae (Zat (i) rfl rfl (rfl) (getm hi) Tryz.underlying28 rfl sz3 rfl)) ?_ | refine Zaf [28,29] [] rfl rfl (fun _ => Zae (ZbA (i) rfl rfl (rfl) (getm hi) rfl Tryz.underlying28 sz3 rfl)) ?_ | refine Zan [28,29] rfl rfl (fun _ => Zae (ZbA (i) rfl rfl (rfl) (getm hi) rfl Tryz.underlying28 sz3 rfl)) ?_
          first | refine Zaf [30] [] rfl rfl (fun _ => Zae (ZaE rfl rfl on3 rfl)) ?_ | refine Zan [30] rfl rfl (fun _ => Zae (ZaE rfl rfl on3 rfl)) ?_ | refine Zaf [30] [] rfl rfl (fun _ => Zae (Zah rfl rfl rfl on3 rfl)) ?_ | refine Zan [30] rfl rfl (fun _ => Zae (Zah rfl rfl rfl on3 rfl)) ?_ | refine Zaf [30] [] rfl rfl (fun _ => Zae (Zbl rfl rfl (rfl) rfl on3 rfl)) ?_ | refine Zan [30] rfl rfl (fun _ => Zae (Zbl rfl rfl (rfl) rfl on3 rfl)) ?_
          refine Zbf [31] [50] [(32,_)] rfl rfl (fun _ => Za5 (ZaD 50 sl28 rfl rfl rfl rfl rfl rfl rfl rfl)) (.inr ⟨32,_,rfl,rfl,rfl,rfl,rfl⟩) rfl rfl rfl rfl rfl ?_
          first | refine Zbf [27,32] [900,50] [(33,_)] rfl rfl (fun _ => Za5 (Zbc (acc) ([(allL p)[i]]) rfl rfl rfl rfl rfl rfl rfl rfl sl28 (by simp only [List.length_singleton]; omega) rfl rfl rfl rfl)) (.inr ⟨33,_,rfl,rfl,rfl,rfl,rfl⟩) rfl rfl rfl rfl rfl ?_ | refine Zbf [27,32] [900,50] [(33,_)] rfl rfl (fun _ => Za5 (Zbj (acc) ([(allL p)[i]]) rfl rfl rfl rfl rfl rfl (fun _ => rfl) sl28 (by simp only [List.length_singleton]; omega) rfl rfl rfl rfl)) (.inr ⟨33,_,rfl,rfl,rfl,rfl,rfl⟩) rfl rfl rfl rfl rfl ?_
          first | refine Zaf [1] [1] rfl rfl (fun _ => Zae (ZaC rfl rfl rw25 rfl)) ?_ | refine Zaf [1] [1] rfl rfl (fun _ => Zae (Zas rfl rfl rw25 rfl rfl rfl)) ?_ | refine Zaf [1] [1] rfl rfl (fun _ => Zae (Zba rfl rfl (rfl) rfl rw25 rfl)) ?_
          first | refine Zaf [5] [] rfl rfl (fun _ => Zae (Zar rfl rfl)) ?_ | refine Zan [5] rfl rfl (fun _ => Zae (Zar rfl rfl)) ?_
          first | refine Zaf [6] [] rfl rfl (fun _ => Zae (Zar rfl rfl)) ?_ | refine Zan [6] rfl rfl (fun _ => Zae (Zar rfl rfl)) ?_
          first | refine Zaf [35,36] [] rfl rfl (fun _ => Zae (Zat (i) rfl rfl (rfl) (getm hi) Tryz.underlying28 rfl sz3 rfl)) ?_ | refine Zan [35,36] rfl rfl (fun _ => Zae (Zat (i) rfl rfl (rfl) (getm hi) Tryz.underlying28 rfl sz3 rfl)) ?_ | refine Zaf [35,36] [] rfl rfl (fun _ => Zae (ZbA (i) rfl rfl (rfl) (getm hi) rfl Tryz.underlying28 sz3 rfl)) ?_ | refine Zan [35,36] rfl rfl (fun _ => Zae (ZbA (i) rfl rfl (rfl) (getm hi) rfl Tryz.underlying28 sz3 rfl)) ?_
          first | refine Zaf [37] [] rfl rfl (fun _ => Zae (ZaE rfl rfl on3 rfl)) ?_ | refine Zan [37] rfl rfl (fun _ => Zae (ZaE rfl rfl on3 rfl)) ?_ | refine Zaf [37] [] rfl rfl (fun _ => Zae (Zah rfl rfl rfl on3 rfl)) ?_ | refine Zan [37] rfl rfl (fun _ => Zae (Zah rfl rfl rfl on3 rfl)) ?_ | refine Zaf [37] [] rfl rfl (fun _ => Zae (Zbl rfl rfl (rfl) rfl on3 rfl)) ?_ | refine Zan [37] rfl rfl (fun _ => Zae (Zbl rfl rfl (rfl) rfl on3 rfl)) ?_
          refine dwc 12 rfl rfl rfl (dw1 13 rfl rfl (Zaa.go (Zau (cst _ hmi) rfl rfl) (Zac ⟨rfl, ?_⟩)));refine dw1 14 rfl rfl (goAs rfl rfl (Zac ⟨rfl, ?_⟩));refine dw1 15 rfl rfl (Zaj.go (Zaz rfl rfl rfl rfl rfl rfl rfl sz25) (Zac ⟨rfl, ?_⟩));refine dw1 16 rfl rfl (goAs rfl rfl (Zac ⟨rfl, ?_⟩));refine dwe (Zab (goMv rfl rfl (Zaa.go (Zay rfl rfl (wrapS (i + 1) (by omega)) rfl) (goAs rfl rfl (Zac ?_)))));exact ⟨(i + 1,set1 p (allL p)[i],acc ++ [(allL p)[i]],true),⟨by show i + 1 ≤ _; omega, .inr ⟨rfl,(allL p)[i],find_at hi (fun x hx => decide_eq_false (hn x hx)) (decide_eq_true h26),rfl,rfl⟩⟩,by show (allL p).length - (i + 1) < (allL p).length - i; omega,Zaq hF [900,1] rfl (rfl) ⟨rfl,rfl,rfl,rfl,rfl,trivial⟩⟩
        · refine Zap (Zab (goMv rfl rfl (Zaa.go (Zay rfl rfl (wrapS (i + 1) (by omega)) rfl) (goAs rfl rfl (Zac ?_)))));exact ⟨(i + 1,p,acc,false),⟨by show i + 1 ≤ _; omega, .inl ⟨rfl,rfl,rfl,by rw [List.take_succ_eq_append_getElem hi]; intro x hx; rcases List.mem_append.1 hx with hx | hx; exact hn x hx; rw [List.mem_singleton.1 hx]; exact h26⟩⟩,by show (allL p).length - (i + 1) < (allL p).length - i; omega,Zaq hF [900,1] rfl (rfl) ⟨rfl,rfl,rfl,rfl,rfl,trivial⟩⟩
      · refine ZaL ?_;exact ⟨(p2,acc2,(if ag2 = true then f - 1 else f),ag2),gj_end hI hJ (.inl (by simpa using h17)),gj_meas hI hJ,Zaq hF [900,1] rfl (rfl) ⟨rfl,rfl,rfl,trivial⟩⟩
    · refine goMv rfl rfl (o_setF 14 rfl ((decide_eq_false (by omega))) (Zai rfl rfl rfl rfl (Zai rfl rfl rfl rfl (Zaa.go (ZaG rfl rfl rfl rfl) (Zac (Za9 rfl rfl (ZaL ?_)))))));exact ⟨(p2,acc2,(if ag2 = true then f - 1 else f),ag2),gj_end hI hJ (.inr hi),gj_meas hI hJ,Zaq hF [900,1] rfl (rfl) ⟨rfl,rfl,rfl,trivial⟩⟩
  · refine ZaL (Zad ?_);have hag : ag = false := by simpa using h7
    have hv := hI.v.2 hag;refine ZbH (emb := intD) 3 900 acc rfl rfl rfl rfl rfl rfl rfl (Zab (goMv rfl rfl (goAs rfl rfl (Zac (Zao ?_)))));exact ⟨_,[],[],Zak rfl,rfl,rfl,by rw [hv],rfl⟩
theorem alone_iff {N : Net} {x : Nd} : aloneN N x = true ↔ (∀ e ∈ x.pl,plN N e = false) ∧ (∀ a ∈ x.it.af,offOf N a = true) ∧ ∀ e ∈ x.ef,ovP (N.po.getD e.1 po0) e.2 = false := by
  unfold aloneN
  simp
theorem bef_split {i : Int} {B : List Int} : ∀ {A : List Int},i ∉ A → befQ i (A ++ i :: B) = A := by
  intro A h;unfold befQ;rw [if_pos (by simp)]
  induction A with
  | nil => rw [List.nil_append,List.takeWhile_cons,if_neg (by simp)]
  | cons a A ih =>
    rw [List.mem_cons,not_or] at h;rw [List.cons_append,List.takeWhile_cons,if_pos (by simpa using fun e => h.1 e.symm),ih h.2]
theorem bef_none {i : Int} {q : List Int} (h : i ∉ q) : befQ i q = [] := if_neg h
theorem filter_one {its : List Itm} (hn : (its.map Itm.id).Nodup) {X : Itm} (hX : X ∈ its) : its.filter (fun y => decide (y.id = X.id)) = [X] := by
  obtain ⟨A,B,rfl⟩ := List.append_of_mem hX;rw [List.map_append,List.nodup_append,List.map_cons] at hn;obtain ⟨_,h2,h3⟩ := hn;rw [List.nodup_cons] at h2;rw [List.filter_append,List.filter_cons,if_pos (by simp)];have e1 : A.filter (fun y => decide (y.id = X.id)) = [] := List.filter_eq_nil_iff.2 fun y hy e => h3 _ (List.mem_map.2 ⟨y,hy,rfl⟩) _ List.mem_cons_self (of_decide_eq_true e);have e2 : B.filter (fun y => decide (y.id = X.id)) = [] := List.filter_eq_nil_iff.2 fun y hy e => h2.1 (List.mem_map.2 ⟨y,hy,of_decide_eq_true e⟩);rw [e1,e2]; rfl
theorem poG_at {p : Prb} {ros : List Roo} {its : List Itm} (h : PV p ros its) (on : Nat → Bool) {x : Roo} (hx : x ∈ ros) : (netG ros its on).po.getD ((ros.map Roo.r).idxOf x.r) po0 = poG (its.map dltS) on x := by
  obtain ⟨j,hj,rfl⟩ := List.getElem_of_mem hx;have hj' : j < (ros.map Roo.r).length := by simpa using hj
  have e : (ros.map Roo.r).idxOf ros[j].r = j := by
    have := idx_nodup h.s.r hj';rw [List.getElem_map] at this; exact this
  rw [e];show (ros.map _).getD j po0 = _;rw [ZaH po0 (by simpa using hj),List.getElem_map]
def SetOn (its : List Itm) (on : Nat → Bool) (u : List Int) : Prop := ∀ j,j < its.length → (on j = true ↔ (its.getD j itm0).id ∉ u)
theorem tot_on {p : Prb} {ros : List Roo} {its : List Itm} (h : PV p ros its) {on : Nat → Bool} {u : List Int} (hu : SetOn its on u) {x : Roo} (hx : x ∈ ros) : totQ (p.it.filter (inB u)) x.r = sumS (its.map dltS) (notOn on) x.r := by
  have h1 := over_sum h (notOn on) hx;unfold overL at h1;have h2 : ((p.it.filter fun i => decide (i.id ∈ onIds its (notOn on) its.length)).map fun i => dltE i x.r).sum = sumS (its.map dltS) (notOn on) x.r := by omega
  rw [← h2]
  have e : p.it.filter (inB u) = p.it.filter fun i => decide (i.id ∈ onIds its (notOn on) its.length) := List.filter_congr fun y hy => by
    have hy' : y ∈ its := by rw [← h.hi]; exact (Zbe p.it).mem_iff.2 hy
    obtain ⟨j,hj,rfl⟩ := List.getElem_of_mem hy';have h3 := on_mem h.s.i (notOn on) hj;have h4 := hu j hj;rw [ZaH itm0 hj] at h3 h4;unfold inB;refine decide_eq_decide.2 ?_;rw [h3];unfold notOn
    cases ho : on j with
    | true => simp [h4.1 ho]
    | false =>
      have : ¬ ¬ its[j].id ∈ u := fun hc => by rw [h4.2 hc] at ho; cases ho
      simp [Classical.not_not.1 this]
  rw [e];unfold totQ;refine map_sum_congr fun y hy => ?_;have hy2 := (List.mem_filter.1 hy).1;exact (dltE_ctr h.e hy2 (h.w x hx)).symm
theorem gro_eq {p : Prb} {ros : List Roo} {its : List Itm} (h : PV p ros its) {on : Nat → Bool} {u : List Int} (hu : SetOn its on u) {i : Nat} (hi : i < its.length) (ho : on i = true) : groN (netG ros its on) i = true ↔ feasR (sP p u) [(its.getD i itm0).id] := by
  obtain ⟨X,hX⟩ : ∃ X,its.getD i itm0 = X := ⟨_,rfl⟩
  have hXm : X ∈ its := by rw [← hX,ZaH itm0 hi]; exact List.getElem_mem hi
  have hXp : X ∈ p.it := by rw [← h.hi] at hXm; exact (Zbe p.it).mem_iff.1 hXm
  have hXu : X.id ∉ u := by have := (hu i hi).1 ho; rwa [hX] at this
  have hXq : X.id ∈ (sP p u).it.map Itm.id := mem_setl_ids.2 ⟨List.mem_map.2 ⟨X,hXp,rfl⟩,hXu⟩
  have hiX : itmOf p X.id = X := by
    obtain ⟨hk,_,h2,h3⟩ := itmOf_at (p := p) (id := X.id) (List.mem_map.2 ⟨_,hXp,rfl⟩);exact ids_inj (items_ids (ZbO h.e).2.1) (by rw [h2]; exact List.getElem_mem hk) hXp h3
  have hiq : itmOf (sP p u) X.id = restI u X := by rw [itmOf_sP h.e hXq,hiX]
  have hdi : i < (its.map dltS).length := by simpa using hi
  have hgi : (its.map dltS).getD i [] = dltS X := by rw [ZaH [] hdi,List.getElem_map, ← hX,ZaH itm0 hi]
  have hnd : (netG ros its on).nd.getD i nd0 = ndS (ros.map Roo.r) its on i := by
    show ((List.range its.length).map _).getD i nd0 = _;rw [ZaH nd0 (by simpa using hi),List.getElem_map,List.getElem_range]
  have honN : ∀ j,j < its.length → onN (netG ros its on) j = on j := fun j hj => by
    unfold onN
    have : (netG ros its on).nd.getD j nd0 = ndS (ros.map Roo.r) its on j := by
      show ((List.range its.length).map _).getD j nd0 = _;rw [ZaH nd0 (by simpa using hj),List.getElem_map,List.getElem_range]
    rw [this]; rfl
  have hids : ∀ {r : Rsc},validE r = 0 → qIds its r = (negQ (its.map dltS) r).map fun j => (its.getD j itm0).id := fun hr => q_ids h.v hr;have hpl : plK (ros.map Roo.r) ((its.map dltS).take i) (dltS X) = (ros.filter fun x => decide (amt (dltS X) x.r < 0)).map fun x => ((ros.map Roo.r).idxOf x.r,(negQ ((its.map dltS).take i) x.r).length) := pl_eq h _ X
  have hgr : groN (netG ros its on) i = true ↔ aloneN (netG ros its on) (ndS (ros.map Roo.r) its on i) = true := by
    unfold groN;rw [hnd];show ((on i) && _) = true ↔ _;rw [ho,Bool.true_and]
  rw [hgr,alone_iff,feas_iff];have hxit : (ndS (ros.map Roo.r) its on i).it = X := hX
  have hxpl : (ndS (ros.map Roo.r) its on i).pl = (ros.filter fun x => decide (amt (dltS X) x.r < 0)).map fun x => ((ros.map Roo.r).idxOf x.r,(negQ ((its.map dltS).take i) x.r).length) := by
    rw [← hpl, ← hX]; rfl
  have hxef : (ndS (ros.map Roo.r) its on i).ef = efK (ros.map Roo.r) (dltS X) := by rw [← hX]; rfl
  rw [hxit,hxpl,hxef,hX]
  have hqro : ∀ y,y ∈ (sP p u).ro ↔ ∃ x ∈ ros,y = ⟨x.r,x.n + totQ (p.it.filter (inB u)) x.r⟩ := fun y => by
    show y ∈ totR p u ↔ _;unfold totR;rw [List.mem_map];have hm : ∀ x,x ∈ p.ro ↔ x ∈ ros := fun x => by rw [← h.hr]; exact (rosS_perm p).mem_iff.symm
    exact ⟨fun ⟨x,hx,e⟩ => ⟨x,(hm x).1 hx,e.symm⟩,fun ⟨x,hx,e⟩ => ⟨x,(hm x).2 hx,e.symm⟩⟩
  -- what stands before the item
  have hA : (∀ e ∈ (ros.filter fun x => decide (amt (dltS X) x.r < 0)).map (fun x => ((ros.map Roo.r).idxOf x.r,(negQ ((its.map dltS).take i) x.r).length)),plN (netG ros its on) e = false) ↔ ∀ y ∈ (sP p u).ro, ∀ a ∈ befQ X.id (qIds (sortO (sP p u).it) y.r),a ∈ [X.id] := by
    have key : ∀ x ∈ ros,(amt (dltS X) x.r < 0 → plN (netG ros its on) ((ros.map Roo.r).idxOf x.r,(negQ ((its.map dltS).take i) x.r).length) = false) ↔ ∀ a ∈ befQ X.id (qIds (sortO (sP p u).it) x.r),a ∈ [X.id] := fun x hx => by
      rw [qIds_sP u h.e,h.hi,hids (h.w x hx)];obtain ⟨B,c1,c2,c3⟩ := negQ_cut hdi x.r;rw [hgi] at c1
      by_cases hneg : amt (dltS X) x.r < 0
      · rw [if_pos hneg] at c1
        have hp1 : plN (netG ros its on) ((ros.map Roo.r).idxOf x.r,(negQ ((its.map dltS).take i) x.r).length) = (negQ ((its.map dltS).take i) x.r).any (onN (netG ros its on)) := by
          unfold plN;dsimp only;rw [poG_at h on hx];show ((negQ (its.map dltS) x.r).take _).any _ = _;rw [c1,List.take_left']
          rfl
        have hA1 : ∀ a ∈ ((negQ ((its.map dltS).take i) x.r).map fun j => (its.getD j itm0).id).filter (fun z => !decide (z ∈ u)),a ≠ X.id := fun a ha e => by
          obtain ⟨j,hj,e2⟩ := List.mem_map.1 (List.mem_filter.1 ha).1;have hji := c2 j hj;have := id_inj h.s.i (i := j) (j := i) (by omega) hi (by rw [e2,e,hX]);omega
        have hb : befQ X.id (((negQ (its.map dltS) x.r).map fun j => (its.getD j itm0).id).filter fun z => !decide (z ∈ u)) = ((negQ ((its.map dltS).take i) x.r).map fun j => (its.getD j itm0).id).filter fun z => !decide (z ∈ u) := by
          rw [c1,List.map_append,List.map_append,List.filter_append,List.filter_append,List.map_singleton,hX,List.filter_cons,if_pos (by simpa using hXu),List.filter_nil,List.singleton_append];exact bef_split fun hm => hA1 _ hm rfl
        rw [hb,hp1,List.any_eq_false]
        constructor
        · intro h1 a ha;obtain ⟨ha1,ha2⟩ := List.mem_filter.1 ha;obtain ⟨j,hj,rfl⟩ := List.mem_map.1 ha1;have hji := c2 j hj;have h2 := h1 hneg j hj;rw [honN j (by omega)] at h2;exact absurd ((hu j (by omega)).2 (by simpa using ha2)) h2
        · intro h1 _ j hj;have hji := c2 j hj;rw [honN j (by omega)];intro hon;have hmem : (its.getD j itm0).id ∈ ((negQ ((its.map dltS).take i) x.r).map fun j => (its.getD j itm0).id).filter (fun z => !decide (z ∈ u)) := List.mem_filter.2 ⟨List.mem_map.2 ⟨j,hj,rfl⟩,by simpa using (hu j (by omega)).1 hon⟩;exact hA1 _ hmem (List.mem_singleton.1 (h1 _ hmem))
      · have hn : X.id ∉ ((negQ (its.map dltS) x.r).map fun j => (its.getD j itm0).id).filter fun z => !decide (z ∈ u) := fun hm => by
          obtain ⟨j,hj,e⟩ := List.mem_map.1 (List.mem_filter.1 hm).1;have hjl := negQ_lt hj;rw [List.length_map] at hjl;have := id_inj h.s.i (i := j) (j := i) hjl hi (by rw [e,hX]);subst this;have h2 := of_decide_eq_true (List.mem_filter.1 hj).2;rw [hgi] at h2;exact hneg h2
        rw [bef_none hn];exact ⟨fun _ a ha => (by cases ha),fun _ hc => absurd hc hneg⟩
    constructor
    · intro h1 y hy;obtain ⟨x,hx,rfl⟩ := (hqro y).1 hy;exact (key x hx).1 fun hneg => h1 _ (List.mem_map.2 ⟨x,List.mem_filter.2 ⟨hx,decide_eq_true hneg⟩,rfl⟩)
    · intro h1 e he;obtain ⟨x,hx,rfl⟩ := List.mem_map.1 he;obtain ⟨hx1,hx2⟩ := List.mem_filter.1 hx;exact (key x hx1).2 (h1 ⟨x.r,x.n + totQ (p.it.filter (inB u)) x.r⟩ ((hqro _).2 ⟨x,hx1,rfl⟩)) (of_decide_eq_true hx2)
  -- what must settle before it
  have hB : (∀ a ∈ X.af,offOf (netG ros its on) a = true) ↔ ∀ a ∈ (itmOf (sP p u) X.id).af,a ∈ [X.id] := by
    rw [hiq]
    have hoff : ∀ a ∈ X.af,(offOf (netG ros its on) a = true ↔ a ∈ u) := fun a ha => by
      have hm := h.s.a _ hXm a ha;have hj := List.idxOf_lt_length_of_mem hm;have hja := List.getElem_idxOf hj;unfold offOf;rw [show idsN (netG ros its on) = its.map Itm.id from S_ids ros its on]
      generalize (its.map Itm.id).idxOf a = j at hj hja ⊢
      have hj' : j < its.length := by simpa using hj
      rw [List.getElem_map] at hja;have h2 := hu j hj';rw [ZaH itm0 hj',hja] at h2;have h3 := honN j hj';unfold onN at h3;rw [h3]
      cases hoj : on j with
      | true => simp [h2.1 hoj]
      | false =>
        have : ¬ ¬ a ∈ u := fun hc => by rw [h2.2 hc] at hoj; cases hoj
        simp [Classical.not_not.1 this]
    constructor
    · intro h1 a ha;obtain ⟨h3,h4⟩ := List.mem_filter.1 ha;have := (hoff a h3).1 (h1 a h3)
      simp [inS,this] at h4
    · intro h1 a ha;refine (hoff a ha).2 (Classical.byContradiction fun hc => ?_);have h2 := h1 a (List.mem_filter.2 ⟨ha,by simp [inS,hc]⟩);have h3 := (aft_iff.1 (check_ok (h.v X hXm)).2.2.2.2.2.2.1).1 a ha;exact h3.2 (List.mem_singleton.1 h2)
  -- what it overdraws
  have hC : (∀ e ∈ efK (ros.map Roo.r) (dltS X),ovP ((netG ros its on).po.getD e.1 po0) e.2 = false) ↔ ∀ y ∈ (sP p u).ro,0 ≤ overL (sP p u).it y [X.id] := by
    have key : ∀ x ∈ ros,overL (sP p u).it ⟨x.r,x.n + totQ (p.it.filter (inB u)) x.r⟩ [X.id] = max (x.n + sumS (its.map dltS) (notOn on) x.r) 0 + amt (dltS X) x.r := fun x hx => by
      rw [tot_on h hu hx];unfold overL
      congr 1
      show (((setlI u p.it).filter _).map _).sum = _;unfold setlI;rw [Zcj,List.filter_filter,List.map_map]
      have e3 : p.it.filter (fun a => decide ((restI u a).id ∈ [X.id]) && !inB u a) = [X] := by
        rw [← filter_one (items_ids (ZbO h.e).2.1) hXp];refine List.filter_congr fun y hy => ?_
        by_cases e : y.id = X.id
        · unfold inB;show (decide (y.id ∈ [X.id]) && !decide (y.id ∈ u)) = _;rw [e,decide_eq_false hXu]; simp
        · show (decide (y.id ∈ [X.id]) && _) = _;rw [decide_eq_false (fun hm => e (List.mem_singleton.1 hm)),decide_eq_false e]; rfl
      rw [e3];show dltE (restI u X) x.r + 0 = _;rw [Int.add_zero,dltE_rest u (h.v X hXm),amt_dlt (h.v X hXm) (h.w x hx)]
    constructor
    · intro h1 y hy;obtain ⟨x,hx,rfl⟩ := (hqro y).1 hy;rw [key x hx]
      by_cases hneg : amt (dltS X) x.r < 0
      · have hk : x.r ∈ (dltS X).map Prod.fst := Classical.byContradiction fun hn => by
          have : amt (dltS X) x.r = 0 := mget_not hn;omega
        obtain ⟨d,hd,e⟩ := List.mem_map.1 hk;have hda : amt (dltS X) d.1 = d.2 := ZbT (Zb2 X) hd;have h2 := h1 ((ros.map Roo.r).idxOf d.1,d.2) (List.mem_map.2 ⟨d,List.mem_filter.2 ⟨hd,decide_eq_true (by rw [e]; exact List.mem_map.2 ⟨x,hx,rfl⟩)⟩,rfl⟩);dsimp only at h2;rw [e] at h2 hda;rw [poG_at h on hx] at h2;have h3 := of_decide_eq_false h2;unfold aftP at h3;have h4 : ¬ (d.2 < 0 ∧ max (x.n + sumS (its.map dltS) (notOn on) x.r) 0 + d.2 < 0) := h3;omega
      · omega
    · intro h1 e he;obtain ⟨d,hd,rfl⟩ := List.mem_map.1 he;obtain ⟨hd1,hd2⟩ := List.mem_filter.1 hd;obtain ⟨x,hx,e⟩ := List.mem_map.1 (of_decide_eq_true hd2);have hda : amt (dltS X) d.1 = d.2 := ZbT (Zb2 X) hd1;have h2 := h1 _ ((hqro _).2 ⟨x,hx,rfl⟩);rw [key x hx] at h2;dsimp only;rw [← e] at hda ⊢;rw [poG_at h on hx];refine decide_eq_false ?_;unfold aftP;show ¬ (d.2 < 0 ∧ max (x.n + sumS (its.map dltS) (notOn on) x.r) 0 + d.2 < 0);omega
  rw [hA,hB,hC]
  constructor
  · rintro ⟨h1,h2,h3⟩;exact ⟨fun id hid => by rw [List.mem_singleton.1 hid]; exact ⟨h1,h2⟩,h3⟩
  · rintro ⟨h1,h2⟩;have := h1 X.id (List.mem_singleton_self _);exact ⟨this.1,this.2,h2⟩
theorem sP_nil (p : Prb) : sP p [] = p := by
  have h1 : totR p [] = p.ro := by
    unfold totR;have e : p.it.filter (inB []) = [] := List.filter_eq_nil_iff.2 fun y _ h => by unfold inB at h; simp at h
    rw [e]
    conv => rhs; rw [← List.map_id p.ro]
    refine List.map_congr_left fun x _ => ?_;show (⟨x.r,x.n + 0⟩ : Roo) = x;rw [Int.add_zero]
  have h2 : setlI [] p.it = p.it := by
    unfold setlI;rw [List.filter_eq_self.2 fun y _ => by unfold inB; simp]
    conv => rhs; rw [← List.map_id p.it]
    refine List.map_congr_left fun y _ => ?_;show (⟨y.id,y.pr,y.sq,y.po,y.pa,kept [] y.af⟩ : Itm) = y;rw [kept_all fun x _ => by simp [inS]]
  unfold sP;rw [h1,h2]
theorem set1_sP {p : Prb} {u : List Int} {id : Int} (hp : prbE p = 0) (hid : id ∈ (sP p u).it.map Itm.id) : set1 (sP p u) id = sP p (u ++ [id]) := by
  obtain ⟨hi1,hi2⟩ := mem_setl_ids.1 hid;obtain ⟨hk,_,hX,hXid⟩ := itmOf_at hi1;have hXm : itmOf p id ∈ p.it := by rw [hX]; exact List.getElem_mem hk
  have h1 : ((sP p u).ro.map fun x => (⟨x.r,x.n + dltE (itmOf (sP p u) id) x.r⟩ : Roo)) = totR p (u ++ [id]) := by
    show ((totR p u).map _) = _;unfold totR;rw [List.map_map];refine List.map_congr_left fun x hx => ?_;have hv := rooms_valid (ZbO hp).1 x hx;show (⟨x.r,x.n + totQ (p.it.filter (inB u)) x.r + dltE (itmOf (sP p u) id) x.r⟩ : Roo) = ⟨x.r,x.n + totQ (p.it.filter (inB (u ++ [id]))) x.r⟩
    rw [itmOf_sP hp hid,dltE_rest u (items_check (ZbO hp).2.1 _ hXm),dltE_ctr hp hXm hv]
    have e1 : totQ (p.it.filter (inB (u ++ [id]))) x.r = totQ (p.it.filter (inB u)) x.r + ctrSum (ctr (itmOf p id)) x.r := by
      unfold totQ;have h2 := sum_disj u [id] (fun y hy => by rw [List.mem_singleton.1 hy]; exact hi2) (fun i => ctrSum (ctr i) x.r) p.it
      have e2 : (p.it.filter fun i => !decide (i.id ∈ u) && decide (i.id ∈ [id])) = [itmOf p id] := by
        rw [← filter_one (items_ids (ZbO hp).2.1) hXm];refine List.filter_congr fun y hy => ?_;rw [hXid]
        by_cases e : y.id = id
        · rw [e,decide_eq_false hi2]; simp
        · rw [decide_eq_false (fun hm => e (List.mem_singleton.1 hm)),decide_eq_false e,Bool.and_false]
      rw [e2] at h2;show ((p.it.filter fun i => decide (i.id ∈ u ++ [id])).map _).sum = ((p.it.filter fun i => decide (i.id ∈ u)).map _).sum + _;rw [h2,List.map_singleton,List.sum_cons,List.sum_nil,Int.add_zero]
    rw [e1,Int.add_assoc]
  have h2 : setI1 id (setlI u p.it) = setlI (u ++ [id]) p.it := by
    unfold setI1 setlI;rw [Zcj,List.filter_filter,List.map_map]
    have e1 : p.it.filter (fun a => decide ((restI u a).id ≠ id) && !inB u a) = p.it.filter fun i => !inB (u ++ [id]) i := List.filter_congr fun y hy => by
      unfold inB;show (decide (y.id ≠ id) && !decide (y.id ∈ u)) = !decide (y.id ∈ u ++ [id]);rw [Bool.eq_iff_iff]
      simp [and_comm]
    rw [e1];refine List.map_congr_left fun y _ => ?_;show (⟨y.id,y.pr,y.sq,y.po,y.pa,without (kept u y.af) id⟩ : Itm) = ⟨y.id,y.pr,y.sq,y.po,y.pa,kept (u ++ [id]) y.af⟩
    have e2 : without (kept u y.af) id = kept (u ++ [id]) y.af := by
      unfold without kept;rw [List.filter_filter];refine List.filter_congr fun x _ => ?_;unfold inS;rw [Bool.eq_iff_iff]
      simp [and_comm]
    rw [e2]
  show (⟨(sP p u).ro.map _,setI1 id (sP p u).it⟩ : Prb) = ⟨totR p (u ++ [id]),setlI (u ++ [id]) p.it⟩
  rw [h1];show (⟨_,setI1 id (setlI u p.it)⟩ : Prb) = _;rw [h2]
theorem range_find (n : Nat) (g : Nat → Bool) : (List.range n).findIdx? g = (List.range n).find? g := by
  cases h : (List.range n).findIdx? g with
  | none =>
    rw [List.findIdx?_eq_none_iff] at h;exact (Zcd h).symm
  | some i =>
    rw [List.findIdx?_eq_some_iff_getElem] at h;obtain ⟨hi,h1,h2⟩ := h
    have h3 := find_at (l := List.range n) (k := i) hi (fun x hx => by
      obtain ⟨j,hj,e⟩ := List.mem_take_iff_getElem.1 hx;rw [← e];have := h2 j (by omega)
      simpa using this) h1
    rw [h3,List.getElem_range]
theorem find_flt {α : Type} {q r : α → Bool} : ∀ {l : List α},(l.filter q).find? r = l.find? fun x => q x && r x
  | [] => rfl
  | a :: l => by
    have e : (a :: l).find? (fun x => q x && r x) = match q a && r a with | true => some a | false => l.find? fun x => q x && r x := by rw [List.find?_cons]; cases q a && r a <;> rfl
    rw [e,List.filter_cons]
    cases hq : q a with
    | true =>
      rw [if_pos rfl,List.find?_cons,Bool.true_and,find_flt]; cases r a <;> rfl
    | false =>
      rw [if_neg (by simp),Bool.false_and,find_flt]
theorem sP_ids {p : Prb} {ros : List Roo} {its : List Itm} (h : PV p ros its) {on : Nat → Bool} {u : List Int} (hu : SetOn its on u) : allL (sP p u) = onIds its on its.length := by
  unfold allL onIds;rw [sort_sP u h.e,h.hi,List.map_map]
  have e : its.filter (fun i => !inB u i) = ((List.range its.length).filter on).map fun i => its.getD i itm0 := by
    conv => lhs; rw [its_range its]
    rw [List.filter_map]
    congr 1
    refine List.filter_congr fun j hj => ?_;have hj' := List.mem_range.1 hj;have := hu j hj';show (!decide ((its.getD j itm0).id ∈ u)) = on j
    cases ho : on j with
    | true => rw [decide_eq_false (this.1 ho)]; rfl
    | false =>
      have h2 : ¬ ¬ (its.getD j itm0).id ∈ u := fun hc => by rw [this.2 hc] at ho; cases ho
      rw [decide_eq_true (Classical.not_not.1 h2)]; rfl
  rw [e,List.map_map]; rfl
theorem next_gro {p : Prb} {ros : List Roo} {its : List Itm} (h : PV p ros its) {on : Nat → Bool} {u : List Int} (hu : SetOn its on u) : ((allL (sP p u)).find? fun id => decide (feasR (sP p u) [id])) = (nextG ros its on).map fun i => (its.getD i itm0).id := by
  unfold nextG;rw [sP_ids h hu,range_find];unfold onIds;rw [List.find?_map,find_flt]
  congr 1
  refine find_congr fun i hi => ?_;have hi' := List.mem_range.1 hi
  cases ho : on i with
  | false =>
    rw [Bool.false_and];unfold groN
    have : (netG ros its on).nd.getD i nd0 = ndS (ros.map Roo.r) its on i := by
      show ((List.range its.length).map _).getD i nd0 = _;rw [ZaH nd0 (by simpa using hi'),List.getElem_map,List.getElem_range]
    rw [this];show false = ((on i) && _)
    rw [ho]; rfl
  | true =>
    rw [Bool.true_and];have := gro_eq h hu hi' ho;show decide (feasR (sP p u) [(its.getD i itm0).id]) = _
    cases hg : groN (netG ros its on) i with
    | true => exact decide_eq_true (this.1 hg)
    | false => exact decide_eq_false fun hc => by rw [this.2 hc] at hg; cases hg
theorem SetOn.off {its : List Itm} (hn : (its.map Itm.id).Nodup) {on : Nat → Bool} {u : List Int} (hu : SetOn its on u) {i : Nat} (hi : i < its.length) : SetOn its (setOff on i) (u ++ [(its.getD i itm0).id]) := fun j hj => by
  rw [List.mem_append,List.mem_singleton,not_or]
  by_cases e : j = i
  · subst e;rw [setOff_at]; simp
  · rw [Zcb e];exact ⟨fun h => ⟨(hu j hj).1 h,fun e2 => e (id_inj hn hj hi e2)⟩,fun h => (hu j hj).2 h.1⟩
theorem gross_run {p : Prb} {ros : List Roo} {its : List Itm} (h : PV p ros its) : ∀ (f f' : Nat) (u : List Int) (on : Nat → Bool),SetOn its on u → cntOn its.length on ≤ f → cntOn its.length on ≤ f' → grossR f (sP p u) = runG ros its f' on := by
  intro f
  induction f with
  | zero =>
    intro f' u on hu h1 _
    have : nextG ros its on = none := by
      cases hn : nextG ros its on with
      | none => rfl
      | some i =>
        obtain ⟨hi,ho,_⟩ := nextG_on hn;have := cntOn_off hi ho;omega
    rw [runG_none this]; rfl
  | succ f ih =>
    intro f' u on hu h1 h2;have hx := next_gro h hu
    cases hn : nextG ros its on with
    | none =>
      rw [hn] at hx;rw [runG_none hn,grossR_none hx]
    | some i =>
      rw [hn] at hx;obtain ⟨hi,ho,_⟩ := nextG_on hn;have hc := cntOn_off hi ho
      obtain ⟨g,rfl⟩ : ∃ g,f' = g + 1 := ⟨f' - 1,by omega⟩
      have hid : (its.getD i itm0).id ∈ (sP p u).it.map Itm.id := ((Zbe (sP p u).it).map Itm.id).mem_iff.1 (List.mem_of_find?_eq_some hx);rw [runG_some hn,grossR_some hx,set1_sP h.e hid,ih g _ _ (hu.off h.s.i hi) (by omega) (by omega)]
theorem grossS_eq {p : Prb} (hE : prbE p = 0) (hf : FewP p) : grossS p = grossR 30 p := by
  have h := pv_of hE hf;have h1 : ordP p = sortO p.it := if_pos hE;have hl := hf.i;unfold grossS;rw [h1];have hc := cntOn_all (sortO p.it).length;have hsl := ZbP p.it;have := gross_run h 30 (sortO p.it).length [] (fun _ => true) (fun j _ => by simp) (by omega) (by omega);rw [sP_nil] at this;exact this.symm
theorem feas_empty (p : Prb) : feasR p [] := by
  refine feas_iff.2 ⟨fun id h => (by cases h),fun x _ => ?_⟩;unfold overL;rw [List.filter_eq_nil_iff.2 fun y _ h => by simp at h];show 0 ≤ max x.n 0 + 0;omega
theorem gross_sub {p : Prb} (hE : prbE p = 0) (hf : FewP p) : ∀ (f : Nat) (u : List Int),feasR p u → (∀ y ∈ u,y ∈ p.it.map Itm.id) → ∀ y ∈ grossR f (sP p u),y ∈ largeS p := by
  intro f
  induction f with
  | zero => intro u _ _ y hy; cases hy
  | succ f ih =>
    intro u hu hui y hy
    cases hx : (allL (sP p u)).find? fun id => decide (feasR (sP p u) [id]) with
    | none => rw [grossR_none hx] at hy; cases hy
    | some id =>
      have hid : id ∈ (sP p u).it.map Itm.id := ((Zbe (sP p u).it).map Itm.id).mem_iff.1 (List.mem_of_find?_eq_some hx);have hfe : feasR (sP p u) [id] := of_decide_eq_true (List.find?_some (p := fun id => decide (feasR (sP p u) [id])) hx);have hu2 := feas_rest hE hu (S := [id]) (fun z hz => by rw [List.mem_singleton.1 hz]; exact hid) hfe
      have hui2 : ∀ z ∈ u ++ [id],z ∈ p.it.map Itm.id := fun z hz => by
        rcases List.mem_append.1 hz with hz | hz
        · exact hui z hz
        · rw [List.mem_singleton.1 hz]; exact (mem_setl_ids.1 hid).1
      rw [grossR_some hx,set1_sP hE hid] at hy;rcases List.mem_cons.1 hy with e | hy
      · rw [e]; exact large_max hE hf hu2 hui2 id (List.mem_append.2 (.inr (List.mem_singleton_self _)))
      · exact ih _ hu2 hui2 y hy
theorem grossS_sub {p : Prb} (hE : prbE p = 0) (hf : FewP p) : ∀ y ∈ grossS p,y ∈ largeS p := by
  rw [grossS_eq hE hf];have := gross_sub hE hf 30 [] (feas_empty p) (by simp);rw [sP_nil] at this;exact this
theorem runG_len {ros : List Roo} {its : List Itm} : ∀ (f : Nat) (on : Nat → Bool),(runG ros its f on).length ≤ f
  | 0,_ => Nat.le_refl _
  | f + 1,on => by
    cases hn : nextG ros its on with
    | none => rw [runG_none hn]; exact Nat.zero_le _
    | some i => rw [runG_some hn]; have := runG_len (ros := ros) (its := its) f (setOff on i); simp; exact this
end Go.Proofs.YtneihdahboilnaaGreat
/- Layer 28: how the laws' arguments are opened. -/
namespace Go.Proofs.YtneihdahboilnaaGreat
open Go.ChangeShapes Go.WideShapes Go.ChangeAt Go.RowKit
section
variable {H : Type} {enc : TypeId × Value → H} {w : World}
abbrev tt {α : Type} : α → Prop := fun _ => True
theorem oI : OpenT enc Tryz.prog w 3 1 intD tt := (openI64 Tryz.underlying3).asQ id (fun _ _ => rfl) (fun _ _ => trivial)
theorem oJ : OpenT enc Tryz.prog w 2 1 intD tt := (openI64 Tryz.underlying2).asQ id (fun _ _ => rfl) (fun _ _ => trivial)
theorem oS : OpenT enc Tryz.prog w 9 1 strD tt := (openStrL Tryz.underlying9).asQ id (fun _ _ => rfl) (fun _ _ => trivial)
theorem oIs : OpenT enc Tryz.prog w 28 1 (fun l : List Int => .sl none (l.map intD)) tt := (openSl Tryz.underlying28 (by kernel_rfl) (by omega) (b := 8) (by kernel_rfl) oI).asQ id (fun _ _ => rfl) (fun _ _ => trivial)
theorem oAcc : OpenT enc Tryz.prog w 54 3 accD tt :=
  (openSt Tryz.underlying54 (by kernel_rfl) (openFc rfl (by kernel_rfl) oS (openFc rfl (by kernel_rfl) oI (openFc rfl (by kernel_rfl) oS openF0)))).asQ (fun a => (⟨a.1,a.2.1,a.2.2.1⟩ : Acc)) (fun _ _ => rfl) (fun _ _ => trivial)
theorem oPost : OpenT enc Tryz.prog w 125 4 postD tt :=
  (openSt Tryz.underlying125 (by kernel_rfl) (openFc rfl (by kernel_rfl) oAcc (openFc rfl (by kernel_rfl) oJ openF0))).asQ (fun a => (⟨a.1,a.2.1⟩ : Post)) (fun _ _ => rfl) (fun _ _ => trivial)
theorem oPay : OpenT enc Tryz.prog w 127 3 payD tt :=
  (openSt Tryz.underlying127 (by kernel_rfl) (openFc rfl (by kernel_rfl) oS (openFc rfl (by kernel_rfl) oS (openFc rfl (by kernel_rfl) oJ openF0)))).asQ (fun a => (⟨a.1,a.2.1,a.2.2.1⟩ : Pay)) (fun _ _ => rfl) (fun _ _ => trivial)
theorem oRsc : OpenT enc Tryz.prog w 56 6 rscD tt :=
  (openSt Tryz.underlying56 (by kernel_rfl) (openFc rfl (by kernel_rfl) oI (openFc rfl (by kernel_rfl) oAcc (openFc rfl (by kernel_rfl) oS (openFc rfl (by kernel_rfl) oS openF0))))).asQ (fun a => (⟨a.1,a.2.1,a.2.2.1,a.2.2.2.1⟩ : Rsc)) (fun _ _ => rfl) (fun _ _ => trivial)
theorem oItm : OpenT enc Tryz.prog w 64 6 itmD tt :=
  (openSt Tryz.underlying64 (by kernel_rfl) (openFc rfl (by kernel_rfl) oI (openFc rfl (by kernel_rfl) oI (openFc rfl (by kernel_rfl) oI
    (openFc rfl (by kernel_rfl) (openSl Tryz.underlying61 (by kernel_rfl) (by omega) (b := 48) (by kernel_rfl) oPost)
    (openFc rfl (by kernel_rfl) (openSl Tryz.underlying62 (by kernel_rfl) (by omega) (b := 40) (by kernel_rfl) oPay) (openFc rfl (by kernel_rfl) oIs openF0))))))).asQ
    (fun a => (⟨a.1,a.2.1,a.2.2.1,a.2.2.2.1,a.2.2.2.2.1,a.2.2.2.2.2.1⟩ : Itm)) (fun _ _ => rfl) (fun _ _ => trivial)
theorem oRoo : OpenT enc Tryz.prog w 67 7 rooD tt :=
  (openSt Tryz.underlying67 (by kernel_rfl) (openFc rfl (by kernel_rfl) oRsc (openFc rfl (by kernel_rfl) oJ openF0))).asQ (fun a => (⟨a.1,a.2.1⟩ : Roo)) (fun _ _ => rfl) (fun _ _ => trivial)
theorem oPrb : OpenT enc Tryz.prog w 25 2 prbD tt :=
  (openSt Tryz.underlying25 (by kernel_rfl) (openFc rfl (by kernel_rfl) (openSl Tryz.underlying22 (by kernel_rfl) (by omega) (b := 88) (by kernel_rfl) oRoo) (openFc rfl (by kernel_rfl) (openSl Tryz.underlying23 (by kernel_rfl) (by omega) (b := 96) (by kernel_rfl) oItm) openF0))).asQ
    (fun a => (⟨a.1,a.2.1⟩ : Prb)) (fun _ _ => rfl) (fun _ _ => trivial)
end
end Go.Proofs.YtneihdahboilnaaGreat
