/- Layer 30: the network while items are removed, in closed form. Plain laws. -/
import Derived.Test.YtneihdahboilnaaGreatMg22
namespace Go.Proofs.YtneihdahboilnaaGreat
open Go.RowKit
set_option maxRecDepth 100000
def sumS (ds : List (List (Rsc × Int))) (on : Nat → Bool) (r : Rsc) : Int := ((List.range ds.length).map fun i => if on i = true then amt (ds.getD i []) r else 0).sum
def miS (on : Nat → Bool) (q : List Nat) : Nat := q.findIdx fun i => !on i
def poS (ds : List (List (Rsc × Int))) (on : Nat → Bool) (x : Roo) : Po := ⟨x.r,x.n,sumS ds on x.r,none,negQ ds x.r,miS on (negQ ds x.r)⟩
def ndS (rs : List Rsc) (its : List Itm) (on : Nat → Bool) (i : Nat) : Nd := { ndK rs ((its.map dltS).take i) (its.getD i itm0) (dltS (its.getD i itm0)) with on := on i }
def netS (ros : List Roo) (its : List Itm) (on : Nat → Bool) : Net := ⟨(List.range its.length).map (ndS (ros.map Roo.r) its on),ros.map (poS (its.map dltS) on),none,none⟩
def setOff (on : Nat → Bool) (i : Nat) : Nat → Bool := fun j => if j = i then false else on j
theorem miS_all (q : List Nat) : miS (fun _ => true) q = q.length := by
  unfold miS;exact List.findIdx_eq_length.2 fun x _ => rfl
theorem sumS_all (ds : List (List (Rsc × Int))) (r : Rsc) : sumS ds (fun _ => true) r = (ds.map fun D => amt D r).sum := by
  unfold sumS
  congr 1
  apply List.ext_getElem (by simp)
  intro i h1 h2;simp only [List.getElem_map,List.getElem_range,if_true];rw [ZaH [] (by simpa using h2)]
theorem netP_S (p : Prb) : netP p = netS (rosS p) (ordP p) fun _ => true := by
  unfold netP netS netK ndsK;dsimp only;rw [List.map_map]
  congr 1
  refine List.map_congr_left fun x _ => ?_;have ht : ((ordP p).map dltS).take (ordP p).length = (ordP p).map dltS := List.take_of_length_le (by simp);show finP (poK _ x) = _;unfold finP poK poS;rw [ht,sumS_all,miS_all]
theorem ext_set {ros : List Roo} {f g : Roo → Po} {j : Nat} (hj : j < ros.length) {y : Po} (hn : (ros.map Roo.r).Nodup) (h1 : y = g ros[j]) (h2 : ∀ x ∈ ros,x.r ≠ ros[j].r → f x = g x) : (ros.map f).set j y = ros.map g := by
  refine List.ext_getElem? fun i => ?_;rw [List.getElem?_set]
  by_cases e : j = i
  · subst e;rw [if_pos rfl,if_pos (by simpa using hj),List.getElem?_map,List.getElem?_eq_getElem hj,h1]; rfl
  · rw [if_neg e,List.getElem?_map,List.getElem?_map]
    cases hi : ros[i]? with
    | none => rfl
    | some z =>
      have hil := List.getElem?_eq_some_iff.1 hi;show some _ = some _
      rw [h2 z (List.mem_of_getElem? hi) fun e2 => e (by
        have h3 : (ros.map Roo.r)[j]'(by simpa using hj) = (ros.map Roo.r)[i]'(by simpa using hil.1) := by
          rw [List.getElem_map,List.getElem_map,hil.2,e2]
        exact (List.getElem_inj hn).1 h3)]
theorem idx_ros {ros : List Roo} {r : Rsc} (hm : r ∈ ros.map Roo.r) : ∃ hj : (ros.map Roo.r).idxOf r < ros.length,ros[(ros.map Roo.r).idxOf r].r = r := by
  have h := List.idxOf_lt_length_of_mem hm;have h1 := List.getElem_idxOf h;rw [List.getElem_map] at h1;exact ⟨by simpa using h,h1⟩
theorem sub_fold {ros : List Roo} (hn : (ros.map Roo.r).Nodup) (f : Roo → Po) : ∀ (D : List (Rsc × Int)),(D.map Prod.fst).Nodup → (efK (ros.map Roo.r) D).foldl subE (ros.map f) = ros.map fun x => { f x with sum := (f x).sum - amt D x.r } := by
  intro D
  induction D using ZbZ with
  | h0 =>
    intro _;show ros.map f = _;refine List.map_congr_left fun x _ => ?_;show f x = { f x with sum := (f x).sum - 0 }
    rw [Int.sub_zero]
  | h1 D d ih =>
    intro hD;rw [List.map_append,List.nodup_append] at hD;have hdn : d.1 ∉ D.map Prod.fst := fun h => hD.2.2 _ h _ (List.mem_singleton_self _) rfl;have ih := ih hD.1
    by_cases hm : d.1 ∈ ros.map Roo.r
    · rw [efK_in hm,List.foldl_append,ih];obtain ⟨hj,hr⟩ := idx_ros hm;show subE _ ((ros.map Roo.r).idxOf d.1,d.2) = _;rw [subE_at (y := (fun x => { f x with sum := (f x).sum - amt D x.r }) ros[(ros.map Roo.r).idxOf d.1]) (by rw [List.getElem?_map,List.getElem?_eq_getElem hj]; rfl)];refine ext_set hj hn ?_ fun x hx hne => ?_
      · dsimp only;have h1 : amt (D ++ [d]) ros[(ros.map Roo.r).idxOf d.1].r = d.2 := by rw [hr]; exact mget_snoc_at hdn
        have h2 : amt D ros[(ros.map Roo.r).idxOf d.1].r = 0 := by rw [hr]; exact mget_not hdn
        rw [h1,h2,Int.sub_zero]
      · rw [hr] at hne;have : amt (D ++ [d]) x.r = amt D x.r := mget_snoc hne;rw [this]
    · rw [efK_out hm,ih];refine List.map_congr_left fun x hx => ?_;have : amt (D ++ [d]) x.r = amt D x.r := mget_snoc fun e => hm (e ▸ List.mem_map.2 ⟨x,hx,rfl⟩);rw [this]
theorem min_fold {ros : List Roo} (hn : (ros.map Roo.r).Nodup) (f : Roo → Po) (ds : List (List (Rsc × Int))) : ∀ (D : List (Rsc × Int)),(D.map Prod.fst).Nodup → (plK (ros.map Roo.r) ds D).foldl minE (ros.map f) = ros.map fun x => { f x with mi := if amt D x.r < 0 then min (f x).mi (negQ ds x.r).length else (f x).mi } := by
  intro D
  induction D using ZbZ with
  | h0 =>
    intro _;show ros.map f = _;refine List.map_congr_left fun x _ => ?_;have h0 : amt [] x.r = 0 := rfl;rw [h0,if_neg (by omega)]
  | h1 D d ih =>
    intro hD;rw [List.map_append,List.nodup_append] at hD;have hdn : d.1 ∉ D.map Prod.fst := fun h => hD.2.2 _ h _ (List.mem_singleton_self _) rfl;have ih := ih hD.1
    by_cases hm : d.1 ∈ ros.map Roo.r ∧ d.2 < 0
    · rw [plK_in hm.1 hm.2,List.foldl_append,ih];obtain ⟨hj,hr⟩ := idx_ros hm.1;show minE _ ((ros.map Roo.r).idxOf d.1,(negQ ds d.1).length) = _;rw [minE_at (y := (fun x => { f x with mi := if amt D x.r < 0 then min (f x).mi (negQ ds x.r).length else (f x).mi }) ros[(ros.map Roo.r).idxOf d.1]) (by rw [List.getElem?_map,List.getElem?_eq_getElem hj]; rfl)];refine ext_set hj hn ?_ fun x hx hne => ?_
      · dsimp only;have h1 : amt (D ++ [d]) ros[(ros.map Roo.r).idxOf d.1].r = d.2 := by rw [hr]; exact mget_snoc_at hdn
        have h2 : amt D ros[(ros.map Roo.r).idxOf d.1].r = 0 := by rw [hr]; exact mget_not hdn
        rw [h1,h2,if_neg (by omega),if_pos hm.2,hr]
      · rw [hr] at hne;have : amt (D ++ [d]) x.r = amt D x.r := mget_snoc hne;rw [this]
    · rw [plK_out hm,ih];refine List.map_congr_left fun x hx => ?_
      by_cases e : x.r = d.1
      · have hin : d.1 ∈ ros.map Roo.r := e ▸ List.mem_map.2 ⟨x,hx,rfl⟩;have h1 : amt (D ++ [d]) x.r = d.2 := by rw [e]; exact mget_snoc_at hdn
        have h2 : amt D x.r = 0 := by rw [e]; exact mget_not hdn
        rw [h1,h2,if_neg (by omega),if_neg (fun h => hm ⟨hin,h⟩)]
      · have : amt (D ++ [d]) x.r = amt D x.r := mget_snoc e;rw [this]
theorem Zcb {on : Nat → Bool} {i j : Nat} (h : j ≠ i) : setOff on i j = on j := if_neg h
theorem setOff_at {on : Nat → Bool} {i : Nat} : setOff on i i = false := if_pos rfl
theorem fidx_app {α : Type} (p : α → Bool) (l m : List α) : (l ++ m).findIdx p = if l.findIdx p < l.length then l.findIdx p else m.findIdx p + l.length := List.findIdx_append
theorem fidx_congr {α : Type} {p q : α → Bool} : ∀ {l : List α},(∀ x ∈ l,p x = q x) → l.findIdx p = l.findIdx q
  | [],_ => rfl
  | a :: l,h => by
    rw [List.findIdx_cons,List.findIdx_cons,h a (List.mem_cons_self ..),fidx_congr fun x hx => h x (List.mem_cons_of_mem _ hx)]
theorem range_cut {n i : Nat} (h : i < n) : ∃ B : List Nat,List.range n = List.range i ++ i :: B ∧ ∀ j ∈ B,i < j := by
  refine ⟨List.range' (i + 1) (n - i - 1), ?_,fun j hj => ?_⟩
  · rw [List.range_eq_range',List.range_eq_range'];have h1 : n = i + (1 + (n - i - 1)) := by omega
    conv => lhs; rw [h1]
    rw [← List.range'_append_1,Nat.zero_add,Nat.add_comm 1 (n - i - 1),List.range'_succ]
  · rw [List.mem_range'_1] at hj; omega
theorem negQ_cut {ds : List (List (Rsc × Int))} {i : Nat} (h : i < ds.length) (r : Rsc) : ∃ B : List Nat,negQ ds r = negQ (ds.take i) r ++ ((if amt (ds.getD i []) r < 0 then [i] else []) ++ B) ∧ (∀ j ∈ negQ (ds.take i) r,j < i) ∧ ∀ j ∈ B,i < j := by
  obtain ⟨B,h1,h2⟩ := range_cut h;refine ⟨B.filter fun i => decide (amt (ds.getD i []) r < 0), ?_,fun j hj => ?_,fun j hj => h2 j (List.mem_filter.1 hj).1⟩
  · unfold negQ;rw [h1,List.filter_append,List.filter_cons,show (ds.take i).length = i by rw [List.length_take]; omega]
    congr 1
    · refine List.filter_congr fun j hj => ?_;have hj' := List.mem_range.1 hj;rw [List.getD_eq_getElem?_getD,List.getD_eq_getElem?_getD,List.getElem?_take_of_lt hj']
    · by_cases h0 : amt (ds.getD i []) r < 0
      · rw [if_pos (decide_eq_true h0),if_pos h0]; rfl
      · rw [if_neg (by simpa using h0),if_neg h0]; rfl
  · unfold negQ at hj;have := List.mem_range.1 (List.mem_filter.1 hj).1;rw [List.length_take] at this; omega
theorem miS_off {ds : List (List (Rsc × Int))} {i : Nat} (h : i < ds.length) (on : Nat → Bool) (r : Rsc) : miS (setOff on i) (negQ ds r) = if amt (ds.getD i []) r < 0 then min (miS on (negQ ds r)) (negQ (ds.take i) r).length else miS on (negQ ds r) := by
  obtain ⟨B,h1,h2,h3⟩ := negQ_cut h r;rw [h1]
  generalize negQ (ds.take i) r = A at h2 ⊢
  have hA : A.findIdx (fun j => !setOff on i j) = A.findIdx fun j => !on j := fidx_congr fun j hj => by
    rw [Zcb (by have := h2 j hj; omega)]
  have hB : B.findIdx (fun j => !setOff on i j) = B.findIdx fun j => !on j := fidx_congr fun j hj => by
    rw [Zcb (by have := h3 j hj; omega)]
  unfold miS
  by_cases h0 : amt (ds.getD i []) r < 0
  · rw [if_pos h0,if_pos h0,fidx_app (fun j => !setOff on i j) A,fidx_app (fun j => !on j) A,hA]
    split
    · omega
    · have : (([i] : List Nat) ++ B).findIdx (fun j => !setOff on i j) = 0 := by
        rw [List.singleton_append,List.findIdx_cons];rw [setOff_at]; rfl
      rw [this]; omega
  · rw [if_neg h0,if_neg h0,List.nil_append,fidx_app (fun j => !setOff on i j) A,fidx_app (fun j => !on j) A,hA,hB]
theorem sumS_off {ds : List (List (Rsc × Int))} {i : Nat} (h : i < ds.length) {on : Nat → Bool} (ho : on i = true) (r : Rsc) : sumS ds (setOff on i) r = sumS ds on r - amt (ds.getD i []) r := by
  obtain ⟨B,h1,h3⟩ := range_cut h;unfold sumS;rw [h1,List.map_append,List.map_append,List.map_cons,List.map_cons,List.sum_append,List.sum_append,List.sum_cons,List.sum_cons]
  have e1 : (List.range i).map (fun j => if setOff on i j = true then amt (ds.getD j []) r else 0) = (List.range i).map fun j => if on j = true then amt (ds.getD j []) r else 0 := List.map_congr_left fun j hj => by
    rw [Zcb (by have := List.mem_range.1 hj; omega)]
  have e2 : B.map (fun j => if setOff on i j = true then amt (ds.getD j []) r else 0) = B.map fun j => if on j = true then amt (ds.getD j []) r else 0 := List.map_congr_left fun j hj => by
    rw [Zcb (by have := h3 j hj; omega)]
  have e3 : (if setOff on i i = true then amt (ds.getD i []) r else 0) = 0 := by rw [setOff_at]; rfl
  rw [e1,e2,e3,if_pos ho];omega
theorem sub_ers : ∀ (l : List (Nat × Int)) (po : List Po),(l.foldl subE po).map ersP = l.foldl subE (po.map ersP)
  | [],_ => rfl
  | e :: l,po => by
    rw [List.foldl_cons,List.foldl_cons,sub_ers l]
    congr 1
    unfold subE;rw [List.getElem?_map]
    cases po[e.1]? with
    | none => rfl
    | some y => show (po.set e.1 _).map ersP = _; rw [List.map_set]; rfl
theorem min_ers : ∀ (l : List (Nat × Nat)) (po : List Po),(l.foldl minE po).map ersP = l.foldl minE (po.map ersP)
  | [],_ => rfl
  | e :: l,po => by
    rw [List.foldl_cons,List.foldl_cons,min_ers l]
    congr 1
    unfold minE;rw [List.getElem?_map]
    cases po[e.1]? with
    | none => rfl
    | some y => show (po.set e.1 _).map ersP = _; rw [List.map_set]; rfl
theorem rm_S {ros : List Roo} {its : List Itm} (hn : (ros.map Roo.r).Nodup) {on : Nat → Bool} {N : Net} (h : ersN N = netS ros its on) {i : Nat} (hi : i < its.length) (ho : on i = true) {x : Nd} (hx : N.nd[i]? = some x) : ersN (rmN N i x) = netS ros its (setOff on i) := by
  have hnd : N.nd.map ers = (List.range its.length).map (ndS (ros.map Roo.r) its on) := congrArg Net.nd h;have hpo : N.po.map ersP = ros.map (poS (its.map dltS) on) := congrArg Net.po h
  have hxe : ers x = ndS (ros.map Roo.r) its on i := by
    have h1 : (N.nd.map ers)[i]? = some (ers x) := by rw [List.getElem?_map,hx]; rfl
    rw [hnd,List.getElem?_map,List.getElem?_range hi] at h1;exact (Option.some.inj h1).symm
  have hef : x.ef = efK (ros.map Roo.r) (dltS (its.getD i itm0)) := congrArg Nd.ef hxe;have hpl : x.pl = plK (ros.map Roo.r) ((its.map dltS).take i) (dltS (its.getD i itm0)) := congrArg Nd.pl hxe;have hdi : i < (its.map dltS).length := by simpa using hi
  have hgi : (its.map dltS).getD i [] = dltS (its.getD i itm0) := by rw [ZaH [] hdi,ZaH itm0 hi,List.getElem_map]
  unfold ersN rmN netS;dsimp only
  congr 1
  · rw [List.map_set,hnd]
    have : ers (offN x) = ndS (ros.map Roo.r) its (setOff on i) i := by
      have h1 : ers (offN x) = offN (ers x) := rfl;rw [h1,hxe];unfold ndS offN setOff;rw [if_pos rfl]
    rw [this];refine List.ext_getElem? fun j => ?_;rw [List.getElem?_set]
    by_cases e : i = j
    · subst e;rw [if_pos rfl,if_pos (by simpa using hi),List.getElem?_map,List.getElem?_range hi]; rfl
    · rw [if_neg e,List.getElem?_map,List.getElem?_map]
      cases hj : (List.range its.length)[j]? with
      | none => rfl
      | some z =>
        have hz := List.getElem?_eq_some_iff.1 hj;have : z = j := by have := hz.2; simp at this; exact this.symm
        subst this;show some _ = some _;unfold ndS setOff;rw [if_neg (fun h => e h.symm)]
  · rw [min_ers,sub_ers,hpo,hef,hpl,sub_fold hn _ _ (Zb2 _),min_fold hn _ _ _ (Zb2 _)];refine List.map_congr_left fun z _ => ?_;unfold poS;dsimp only;rw [sumS_off hdi ho,miS_off hdi,hgi]
theorem ers_getN (N : Net) (i : Nat) : (ersN N).nd.getD i nd0 = ers (N.nd.getD i nd0) := by
  show (N.nd.map ers).getD i nd0 = _;rw [List.getD_eq_getElem?_getD,List.getD_eq_getElem?_getD,List.getElem?_map]
  cases N.nd[i]? <;> rfl
theorem ers_getP (N : Net) (j : Nat) : (ersN N).po.getD j po0 = ersP (N.po.getD j po0) := by
  show (N.po.map ersP).getD j po0 = _;rw [List.getD_eq_getElem?_getD,List.getD_eq_getElem?_getD,List.getElem?_map]
  cases N.po[j]? <;> rfl
theorem ers_ids (N : Net) : idsN (ersN N) = idsN N := by
  unfold idsN ersN;rw [List.map_map]; rfl
theorem inadm_ers (N : Net) (x : Nd) : inadm (ersN N) (ers x) = inadm N x := by
  have h1 : badP (ersN N) = badP N := funext fun e => by unfold badP; rw [ers_getP]; rfl
  have h2 : ∀ e,excQ (ersN N) (ers x) e = excQ N x e := fun e => by unfold excQ; rw [ers_getP,ers_getN]; rfl
  have h3 : offOf (ersN N) = offOf N := funext fun e => by unfold offOf; rw [ers_getN,ers_ids]; rfl
  unfold inadm;rw [h1,h3];show (match x.pl.find? (badP N) with | some e => _ | none => match x.it.af.find? (offOf N) with | some id => _ | none => _) = _
  cases x.pl.find? (badP N) with
  | some e => show some (excQ (ersN N) (ers x) e) = some (excQ N x e); rw [h2]
  | none => rfl
theorem next_ers (N : Net) : nextN (ersN N) = nextN N := by
  have h1 : (ersN N).nd.findSome? (ndX (ersN N)) = N.nd.findSome? (ndX N) := by
    show (N.nd.map ers).findSome? _ = _;rw [List.findSome?_map]
    congr 1
    funext x
    show ndX (ersN N) (ers x) = ndX N x;unfold ndX;rw [inadm_ers]; rfl
  have h2 : (ersN N).po.findSome? (poX (ersN N)) = N.po.findSome? (poX N) := by
    show (N.po.map ersP).findSome? _ = _;rw [List.findSome?_map]
    congr 1
    funext y
    show poX (ersN N) (ersP y) = poX N y;have h3 : onN (ersN N) = onN N := funext fun i => by unfold onN; rw [ers_getN]; rfl
    have h4 : ∀ i,((ersN N).nd.getD i nd0).it.id = (N.nd.getD i nd0).it.id := fun i => by rw [ers_getN]; rfl
    unfold poX;rw [h3];show (if ovP y y.sum = true then (y.q.reverse.find? (onN N)).map fun i => (⟨((ersN N).nd.getD i nd0).it.id,0,y.r, -1⟩ : Exc) else none) = _;rw [show (fun i => (⟨((ersN N).nd.getD i nd0).it.id,0,y.r, -1⟩ : Exc)) = fun i => ⟨(N.nd.getD i nd0).it.id,0,y.r, -1⟩ from funext fun i => by rw [h4]]
  unfold nextN;rw [h1,h2]
theorem inadm_id {N : Net} {x : Nd} {e : Exc} (h : inadm N x = some e) : e.id = x.it.id := by
  unfold inadm at h
  split at h
  · injection h with h; subst h; rfl
  · split at h
    · injection h with h; subst h; rfl
    · cases h
theorem next_on {N : Net} {e : Exc} (h : nextN N = some e) : ∃ (i : Nat) (x : Nd),N.nd[i]? = some x ∧ x.on = true ∧ e.id = x.it.id := by
  unfold nextN at h
  split at h
  · rename_i e' h1
    injection h with h; subst h
    obtain ⟨x,hx,h2⟩ := List.exists_of_findSome?_eq_some h1;obtain ⟨i,hi,e1⟩ := List.getElem_of_mem hx;unfold ndX at h2
    split at h2
    · rename_i ho
      exact ⟨i,x,by rw [List.getElem?_eq_getElem hi,e1],ho,inadm_id h2⟩
    · cases h2
  · obtain ⟨y,hy,h2⟩ := List.exists_of_findSome?_eq_some h;unfold poX at h2
    split at h2
    · cases hf : y.q.reverse.find? (onN N) with
      | none => rw [hf] at h2; cases h2
      | some i =>
        rw [hf] at h2;injection h2 with h2; subst h2
        have ho := List.find?_some hf;unfold onN at ho
        by_cases hi : i < N.nd.length
        · rw [ZaH nd0 hi] at ho;exact ⟨i,N.nd[i],List.getElem?_eq_getElem hi,ho,by show (N.nd.getD i nd0).it.id = _; rw [ZaH nd0 hi]⟩
        · rw [List.getD_eq_getElem?_getD,List.getElem?_eq_none (by omega)] at ho
          cases ho
    · cases h2
structure SmO (ros : List Roo) (its : List Itm) : Prop where
  l : its.length ≤ 30
  x : ∀ x ∈ its,FewI x
  i : (its.map Itm.id).Nodup
  a : ∀ x ∈ its, ∀ id ∈ x.af,id ∈ its.map Itm.id
  r : (ros.map Roo.r).Nodup
  n : ∀ x ∈ ros, -4000000000000000 ≤ x.n ∧ x.n ≤ 4000000000000000
  o : ros.length ≤ 100
theorem S_nd {ros : List Roo} {its : List Itm} {on : Nat → Bool} {x : Nd} (h : x ∈ (netS ros its on).nd) : ∃ i,i < its.length ∧ x = ndS (ros.map Roo.r) its on i := by
  obtain ⟨i,hi,e⟩ := List.mem_map.1 h;exact ⟨i,List.mem_range.1 hi,e.symm⟩
theorem S_ids (ros : List Roo) (its : List Itm) (on : Nat → Bool) : idsN (netS ros its on) = its.map Itm.id := by
  unfold idsN netS;rw [List.map_map]
  apply List.ext_getElem (by simp)
  intro i a b;simp only [List.getElem_map,List.getElem_range,Function.comp];show (its.getD i itm0).id = _;rw [ZaH itm0 (by simpa using b)]
theorem efK_mem {rs : List Rsc} {D : List (Rsc × Int)} {e : Nat × Int} (h : e ∈ efK rs D) : ∃ d ∈ D,e.2 = d.2 := by
  obtain ⟨d,hd,rfl⟩ := List.mem_map.1 h;exact ⟨d,(List.mem_filter.1 hd).1,rfl⟩
theorem plK_mem {rs : List Rsc} {ds : List (List (Rsc × Int))} {D : List (Rsc × Int)} {e : Nat × Nat} (h : e ∈ plK rs ds D) : ∃ d ∈ D,d.1 ∈ rs ∧ d.2 < 0 ∧ e = (rs.idxOf d.1,(negQ ds d.1).length) := by
  obtain ⟨d,hd,rfl⟩ := List.mem_map.1 h;have h1 := List.mem_filter.1 hd;have h2 := h1.2;simp only [Bool.and_eq_true,decide_eq_true_eq] at h2;exact ⟨d,h1.1,h2.1,h2.2,rfl⟩
theorem S_sum {ros : List Roo} {its : List Itm} (h : SmO ros its) (on : Nat → Bool) (r : Rsc) : -30000000000000000 ≤ sumS (its.map dltS) on r ∧ sumS (its.map dltS) on r ≤ 30000000000000000 := by
  have key : ∀ l : List Nat, -(l.length * 1000000000000000) ≤ (l.map fun i => if on i = true then amt ((its.map dltS).getD i []) r else 0).sum ∧ (l.map fun i => if on i = true then amt ((its.map dltS).getD i []) r else 0).sum ≤ l.length * 1000000000000000 := by
    intro l
    induction l with
    | nil => simp
    | cons i l ih =>
      simp only [List.map_cons,List.sum_cons,List.length_cons]
      have hb : Bnd ((its.map dltS).getD i []) := by
        rcases getD_mem (l := its.map dltS) (d := []) i with hm | hm
        · obtain ⟨x,_,e⟩ := List.mem_map.1 hm; rw [← e]; exact dlt_bnd x
        · rw [hm]; intro x hx; cases hx
      have h1 := amt_bnd hb r
      split <;> omega
  have h1 := key (List.range (its.map dltS).length);have h2 := h.l;unfold sumS;rw [List.length_range,List.length_map] at h1;rw [List.length_map] at *;omega
theorem S_w {ros : List Roo} {its : List Itm} (h : SmO ros its) (on : Nat → Bool) : NetW (netS ros its on) := by
  have hl := h.l
  have hmi : ∀ y ∈ (netS ros its on).po,y.q.length ≤ 30 ∧ y.mi ≤ 30 ∧ ∃ x ∈ ros,y = poS (its.map dltS) on x := fun y hy => by
    obtain ⟨x,hx,e⟩ := List.mem_map.1 hy;subst e;have h1 := negQ_len (its.map dltS) x.r;rw [List.length_map] at h1;have h2 : miS on (negQ (its.map dltS) x.r) ≤ (negQ (its.map dltS) x.r).length := List.findIdx_le_length;exact ⟨by show (negQ _ _).length ≤ _; omega,by show miS _ _ ≤ _; omega,x,hx,rfl⟩
  refine ⟨by rw [S_ids]; exact h.i,fun x hx id hid => ?_,fun x hx => ?_,fun x hx e he => ?_,fun x hx e he => ?_,fun y hy => ?_,fun y hy => ?_, ?_,fun y hy => ?_⟩
  · obtain ⟨i,hi,rfl⟩ := S_nd hx;rw [S_ids];refine h.a (its.getD i itm0) (by rw [ZaH itm0 hi]; exact List.getElem_mem hi) id hid
  · obtain ⟨i,hi,rfl⟩ := S_nd hx;have hm : its.getD i itm0 ∈ its := by rw [ZaH itm0 hi]; exact List.getElem_mem hi
    have h1 := dlt_len (h.x _ hm);have h2 := efK_len (ros.map Roo.r) (dltS (its.getD i itm0));have h3 := plK_len (ros.map Roo.r) ((its.map dltS).take i) (dltS (its.getD i itm0));have h4 := (h.x _ hm).2.2;exact ⟨by show (efK _ _).length ≤ _; omega,by show (plK _ _ _).length ≤ _; omega,by show (its.getD i itm0).af.length ≤ _; omega⟩
  · obtain ⟨i,hi,rfl⟩ := S_nd hx;obtain ⟨d,hd,e1⟩ := efK_mem he;have := dlt_bnd _ d hd;rw [e1]; omega
  · obtain ⟨i,hi,rfl⟩ := S_nd hx;obtain ⟨d,hd,hm,hneg,rfl⟩ := plK_mem he;obtain ⟨hj,hr⟩ := idx_ros hm;have hdi : i < (its.map dltS).length := by simpa using hi
    have hgi : (its.map dltS).getD i [] = dltS (its.getD i itm0) := by rw [ZaH [] hdi,ZaH itm0 hi,List.getElem_map]
    have hamt : amt ((its.map dltS).getD i []) d.1 = d.2 := by rw [hgi]; exact ZbT (Zb2 _) hd
    obtain ⟨B,c1,c2,c3⟩ := negQ_cut hdi d.1
    have hq : ((netS ros its on).po.getD ((ros.map Roo.r).idxOf d.1) po0).q = negQ (its.map dltS) d.1 := by
      show ((ros.map _).getD _ po0).q = _;rw [ZaH po0 (by simpa using hj),List.getElem_map];show negQ _ (ros[(ros.map Roo.r).idxOf d.1]).r = _;rw [hr]
    rw [hq];dsimp only;have hlen := congrArg List.length c1;rw [if_pos (by rw [hamt]; exact hneg),List.length_append,List.length_append,List.length_singleton] at hlen;have h1 := negQ_len ((its.map dltS).take i) d.1;rw [List.length_take,List.length_map] at h1;omega
  · have := hmi y hy; omega
  · obtain ⟨_,_,x,hx,rfl⟩ := hmi y hy;have := h.n x hx;show -1000000000000000000 ≤ x.n ∧ x.n ≤ 1000000000000000000;omega
  · have h1 : (netS ros its on).nd.length = its.length := by unfold netS; simp
    have h2 : (netS ros its on).po.length = ros.length := by unfold netS; simp
    have := h.o;omega
  · have := hmi y hy; omega
theorem W_ers {N : Net} (h : NetW (ersN N)) : NetW N := by
  have hn : ∀ x ∈ N.nd,ers x ∈ (ersN N).nd := fun x hx => List.mem_map.2 ⟨x,hx,rfl⟩;have hp : ∀ y ∈ N.po,ersP y ∈ (ersN N).po := fun y hy => List.mem_map.2 ⟨y,hy,rfl⟩;refine ⟨by rw [← ers_ids]; exact h.i,fun x hx id hid => by rw [← ers_ids]; exact h.a _ (hn x hx) id hid,fun x hx => h.l (ers x) (hn x hx),fun x hx => h.e (ers x) (hn x hx),fun x hx e he => ?_,fun y hy => h.m (ersP y) (hp y hy),fun y hy => h.rm (ersP y) (hp y hy), ?_,fun y hy => h.ql (ersP y) (hp y hy)⟩
  · have := h.p _ (hn x hx) e he;rw [ers_getP] at this; exact this
  · have := h.n;have h1 : (ersN N).nd.length = N.nd.length := by unfold ersN; simp
    have h2 : (ersN N).po.length = N.po.length := by unfold ersN; simp
    omega
theorem S_sumB {N : Net} {ros : List Roo} {its : List Itm} (h : SmO ros its) {on : Nat → Bool} (hN : ersN N = netS ros its on) : sumB N.po 1000000000000000000 := fun y hy => by
  have h1 : ersP y ∈ (ersN N).po := List.mem_map.2 ⟨y,hy,rfl⟩;rw [hN] at h1;obtain ⟨x,hx,e⟩ := List.mem_map.1 h1;have h2 := S_sum h on x.r;have h3 : y.sum = sumS (its.map dltS) on x.r := congrArg Po.sum e.symm;rw [h3]; omega
def runS (ros : List Roo) (its : List Itm) : Nat → (Nat → Bool) → List Exc × (Nat → Bool)
  | 0,on => ([],on)
  | f + 1,on => match nextN (netS ros its on) with
    | none => ([],on)
    | some e => (e :: (runS ros its f (setOff on ((its.map Itm.id).idxOf e.id))).1,(runS ros its f (setOff on ((its.map Itm.id).idxOf e.id))).2)
def cntOn (n : Nat) (on : Nat → Bool) : Nat := ((List.range n).filter on).length
def explS (p : Prb) : List Exc × (Nat → Bool) := runS (rosS p) (ordP p) (ordP p).length fun _ => true
def onIds (its : List Itm) (on : Nat → Bool) (k : Nat) : List Int := ((List.range k).filter on).map fun i => (its.getD i itm0).id
theorem cntOn_off {n i : Nat} (hi : i < n) {on : Nat → Bool} (ho : on i = true) : cntOn n (setOff on i) + 1 = cntOn n on := by
  obtain ⟨B,h1,h3⟩ := range_cut hi;unfold cntOn;rw [h1,List.filter_append,List.filter_append,List.length_append,List.length_append,List.filter_cons,List.filter_cons,setOff_at,ho];have e1 : (List.range i).filter (setOff on i) = (List.range i).filter on := List.filter_congr fun j hj => Zcb (by have := List.mem_range.1 hj; omega);have e2 : B.filter (setOff on i) = B.filter on := List.filter_congr fun j hj => Zcb (by have := h3 j hj; omega);rw [e1,e2]
  simp
  omega
theorem idx_nodup {α : Type} [BEq α] [LawfulBEq α] {l : List α} (hn : l.Nodup) {i : Nat} (hi : i < l.length) : l.idxOf l[i] = i := by
  have h1 : l.idxOf l[i] < l.length := List.idxOf_lt_length_of_mem (List.getElem_mem hi);have h2 := List.getElem_idxOf h1;exact (List.getElem_inj hn).1 h2
theorem run_none {ros : List Roo} {its : List Itm} {f : Nat} {on : Nat → Bool} (h : nextN (netS ros its on) = none) : runS ros its f on = ([],on) := by
  cases f with
  | zero => rfl
  | succ f => unfold runS; rw [h]
theorem run_some {ros : List Roo} {its : List Itm} {f : Nat} {on : Nat → Bool} {e : Exc} (h : nextN (netS ros its on) = some e) : runS ros its (f + 1) on = (e :: (runS ros its f (setOff on ((its.map Itm.id).idxOf e.id))).1,(runS ros its f (setOff on ((its.map Itm.id).idxOf e.id))).2) := by
  show (match nextN (netS ros its on) with | none => _ | some e => _) = _;rw [h]
theorem S_nd_at {ros : List Roo} {its : List Itm} {on : Nat → Bool} {N : Net} (h : ersN N = netS ros its on) {i : Nat} {x : Nd} (hx : N.nd[i]? = some x) : i < its.length ∧ x.on = on i ∧ x.it = its.getD i itm0 := by
  have h1 : (N.nd.map ers)[i]? = some (ers x) := by rw [List.getElem?_map,hx]; rfl
  rw [show N.nd.map ers = (List.range its.length).map (ndS (ros.map Roo.r) its on) from congrArg Net.nd h] at h1;have hi : i < its.length := by have := (List.getElem?_eq_some_iff.1 h1).1; simpa using this
  rw [List.getElem?_map,List.getElem?_range hi] at h1;have h2 : ers x = ndS (ros.map Roo.r) its on i := (Option.some.inj h1).symm;exact ⟨hi,congrArg Nd.on h2,congrArg Nd.it h2⟩
theorem onIds_snoc (its : List Itm) (on : Nat → Bool) (k : Nat) : onIds its on (k + 1) = onIds its on k ++ if on k = true then [(its.getD k itm0).id] else [] := by
  unfold onIds;rw [List.range_succ,List.filter_append,List.map_append,filt1]
  split <;> rfl
theorem onIds_len (its : List Itm) (on : Nat → Bool) (k : Nat) : (onIds its on k).length ≤ k := by
  unfold onIds;rw [List.length_map];exact Nat.le_trans (List.length_filter_le _ _) (by simp)
theorem S_len {ros : List Roo} {its : List Itm} {on : Nat → Bool} {N : Net} (h : ersN N = netS ros its on) : N.nd.length = its.length := by
  have h1 := congrArg (fun N => N.nd.length) h;have h2 : (N.nd.map ers).length = ((List.range its.length).map _).length := h1
  rwa [List.length_map,List.length_map,List.length_range] at h2
theorem sml_P {p : Prb} (hf : FewP p) (hE : prbE p = 0) : SmO (rosS p) (ordP p) := by
  refine ⟨Nat.le_trans (ordP_len p) hf.i,fun x hx => hf.x x (ordP_mem hx),ord_ids hE,fun x hx id hid => ?_,rosS_nodup hE,fun x hx => ?_, ?_⟩
  · have h1 : ordP p = sortO p.it := if_pos hE;have h2 : fErr (p.it.map Itm.id) x = 0 := fst0_all (ZbO hE).2.2 _ (List.mem_map.2 ⟨x,ordP_mem hx,rfl⟩)
    have h3 : id ∈ p.it.map Itm.id := by
      unfold fErr at h2
      split at h2
      · cases h2
      · rename_i h4
        by_cases h5 : id ∈ p.it.map Itm.id
        · exact h5
        · exact absurd (List.any_eq_true.2 ⟨id,hid,by unfold notIn; simpa using h5⟩) h4
    rw [h1];exact ((Zbe p.it).map Itm.id).mem_iff.2 h3
  · have h1 : x ∈ p.ro := by
      obtain ⟨i,hi,rfl⟩ := List.mem_map.1 hx;have hi' := List.mem_range.1 ((ZbI (p.ro.map Roo.r)).mem_iff.1 hi);rw [ZaH roo0 (by simpa using hi')]; exact List.getElem_mem _
    exact rooms_amt (ZbO hE).1 x h1
  · unfold rosS; rw [List.length_map,(ZbI _).length_eq,List.length_range,List.length_map]; exact hf.r
set_option maxHeartbeats 1000000 in
theorem explain_ok (p : Prb) (hf : FewP p) (hE : prbE p = 0) : PCalls Tryz.prog 21 [.d (prbD p)] (.tup [.sl none ((onIds (ordP p) (explS p).2 (ordP p).length).map intD), .sl none ((explS p).1.map excD),intD 0]) := by
  have hbu := build_ok p hf hE;have hsm := sml_P hf hE;unfold explS;rw [netP_S] at hbu
  obtain ⟨its,hits⟩ : ∃ its,ordP p = its := ⟨_,rfl⟩
  obtain ⟨ros,hros⟩ : ∃ ros,rosS p = ros := ⟨_,rfl⟩
  rw [hits,hros] at hbu hsm ⊢;have hl := hsm.l;refine ZaB Tryz.func21 rfl rfl Tryz.ntmps21 rfl rfl rfl fun F hF => (Zad (Zab ?_));refine Zaj.go (ZaS 1 rfl rfl rfl rfl rfl rfl rfl) (goAs rfl rfl (goAs rfl rfl (goAs rfl rfl (Zac (a_scope (Zad (Zab (Zaa.go (Zas rfl rfl rw35 rfl rfl rfl) ?_))))))));refine o_step (st_callX hbu rfl [40,50,51] ⟨rfl,rfl,rfl,trivial⟩ rfl rfl rfl rfl (fun r H' ⟨_,_,_,_,_,_,_,e1,e2,_⟩ => by subst e1 e2; exact ⟨rfl,rfl,rfl⟩) rfl) rfl ?_; rintro _ ⟨r,H',⟨wb,mv,nb,pb,N,M,bs,rfl,rfl,hR,hN⟩,rfl⟩;refine goMv rfl rfl (Zaa.go (ZaR rfl rfl rfl) (Zaa.go (ZaR rfl rfl rfl) (goAs rfl rfl (goAs rfl rfl (Zac ?_)))));refine Zad (Zad (Zab (goMv rfl rfl (Zaa.go (Zbi rfl rfl rfl) (Zac (Za9 rfl (rfl) (Zap (Zad ?_))))))));have hids : idsN N = its.map Itm.id := by rw [← ers_ids,hN,S_ids]
  rw [hids];refine Zab (goAs rfl rfl (Zac (Zad (a_label (Zad (Zam (a_adopt 7 900 sl42 rfl rfl rfl rfl (ZaK (α := (Nat → Bool) × Net × MF × List Exc × Nat) (fun q => ⟨64,[(5,(.d (pD wb 0))),(7,(.own 900 0 q.2.2.2.1.length))],(900,[.rowD 53 9 (q.2.2.2.1.map excD)]) :: HW mv bs (byL nb (its.map Itm.id)) q.2.2.1⟩) (fun q => Rep wb mv nb pb q.2.1 q.2.2.1 ∧ ersN q.2.1 = netS ros its q.1 ∧ cntOn its.length q.1 ≤ q.2.2.2.2 ∧ q.2.2.2.1.length + q.2.2.2.2 ≤ its.length ∧ q.2.2.2.1 ++ (runS ros its q.2.2.2.2 q.1).1 = (runS ros its its.length fun _ => true).1 ∧ (runS ros its q.2.2.2.2 q.1).2 = (runS ros its its.length fun _ => true).2) (fun q => q.2.2.2.2) ((fun _ => true,N,M,[],its.length)) (⟨hR,hN,by show ((List.range its.length).filter _).length ≤ _; exact Nat.le_trans (List.length_filter_le _ _) (by simp),by simp,rfl,rfl⟩) (Zaq hF [900,40,50,51] rfl rfl ⟨rfl,rfl,trivial⟩) ?_))))))));rintro ⟨on,N,M,acc,f⟩ ⟨hR,hN,hc,hal,hr1,hr2⟩;dsimp only at hR hN hc hal hr1 hr2 ⊢;refine Zam (Zad ?_);have hw := W_ers (N := N) (by rw [hN]; exact S_w hsm on);have hsb := S_sumB hsm hN;have hids : idsN N = its.map Itm.id := by rw [← ers_ids,hN,S_ids]
  have hnx := next_c bs hR hw hsb;rw [hids] at hnx;refine Zab (goMv rfl rfl (Zaj.go (Zbh hnx rfl [40,50,51] ⟨rfl,rfl,rfl,trivial⟩ rfl rfl rfl rfl rfl rfl rfl rfl rfl) (goMv rfl rfl ?_)))
  cases hne : nextN N
  · refine Zaa.go (ZaR rfl rfl rfl) (Zaa.go (ZaR rfl rfl rfl) (Zaj.go (ZaQ 2 zl53 rfl rfl rfl rfl) (Zaj.go (Zaz rfl rfl rfl rfl rfl rfl rfl sz53) (goAs rfl rfl (Zac ?_)))));refine Zad (Zad (Zab (goMv rfl rfl (Zaa.go (st_not rfl rfl) (Zac (ZaU rfl (rfl) (ZaL (Zad ?_))))))));have hro : runS ros its f on = ([],on) := run_none (by rw [← hN,next_ers,hne]);rw [hro] at hr1 hr2;rw [List.append_nil] at hr1;dsimp only at hr2;have hwb := hR.w;have hnr : rowAt M N.nh pnT 1 ((List.range N.nd.length).map fun i => ptrD (nb i)) := hR.rs.1 .n;have hnz := Zbs hnr;rw [List.length_range] at hnz;have hNl := S_len hN;refine Zab (goAs rfl rfl (Zac (Zad (Zad (Zab (goMv rfl rfl ?_))))));refine Zaa.go (Zax rfl rfl) (Zaa.go (Zav rfl ZbX rfl rfl rfl) (Zaa.go (ZaV (f := 40) rfl rfl (hwb) rfl on104 rfl) (Zaa.go (ZbV hnz rfl Tryz.underlying104 rfl) (goMv rfl rfl (Zac (Zam (a_adopt 10 901 sl28 rfl rfl rfl rfl (ZaK (α := Nat × List Int) (fun q => ⟨64,[(7,(.own 900 0 acc.length)),(10,(.own 901 0 q.2.length)),(43,(.d (hdr N.nh N.nd.length))),(44,(.d (intD (N.nd.length : Int)))),(45,(.d (intD (q.1 : Int))))],(901,[.rowD 3 1 (q.2.map intD)]) :: (900,[.rowD 53 9 (acc.map excD)]) :: HW mv bs (byL nb (its.map Itm.id)) M⟩) (fun q => q.1 ≤ N.nd.length ∧ q.2 = onIds its on q.1) (fun q => N.nd.length - q.1) ((0,[])) (⟨Nat.zero_le _,rfl⟩) (Zaq hF [901,900,40,50,51] rfl rfl ⟨rfl,rfl,rfl,rfl,rfl,trivial⟩) ?_))))))));rintro ⟨k,ids⟩ ⟨hk0,hI⟩;dsimp only at hk0 hI ⊢;refine Zad (Zab (Zaa.go (ZaI rfl rfl rfl) (Zac (Zad (ZaF rfl (fun h46 => ?_) (fun h46 => ?_))))))
    · have hk1 : k < N.nd.length := ZaN h46;refine Zap (Zad (Zam (Zad ?_)))
      obtain ⟨x,hx⟩ : ∃ x,N.nd[k]? = some x := ⟨_,List.getElem?_eq_getElem hk1⟩
      obtain ⟨hiN,hoi,hit⟩ := S_nd_at hN hx;have hxb := hR.n k x hx;obtain ⟨rb,rc,hre⟩ := Zbr hnr (j := k) (by rw [List.length_range]; exact hk1);have hrow := Zby hnr hre;have hidl : ids.length ≤ k := by rw [hI]; exact onIds_len its on k
      refine Zab (Zaa.go (ZbB hre (k) rfl rfl rfl hk1 Tryz.underlying104 sz103 rfl) (Zaa.go (Zca (f := 40) (e := k) (off := 0) rfl (by omega) rfl (hrow) ((by rw [List.getElem?_map,List.getElem?_range hk1]; rfl)) rfl on103 rfl) ?_));refine goAs rfl rfl ?_;refine Zac (Zad (Zab (goMv rfl rfl (Zaa.go (Zax rfl rfl) (Zaa.go (Zav rfl Zb5 rfl rfl rfl) (Zaa.go (ZaV (f := 40) rfl rfl (hxb) rfl on4 rfl) (Zac (Zbm rfl (fun h52 => ?_) (fun h52 => ?_)))))))))
      · refine Zab (goMv rfl rfl (goMv rfl rfl (Zaa.go (Zax rfl rfl) (Zaa.go (Zav rfl fi112_0 rfl rfl rfl) (Zaa.go (Zav rfl Zbz rfl rfl rfl) ?_)))));refine Zaa.go (ZaV (f := 40) rfl rfl (hxb) rfl on3 rfl) (Zaj.go (ZaD 3 sl28 rfl rfl rfl rfl rfl rfl rfl rfl) (Zaj.go (Zbc (ids) ([x.it.id]) rfl rfl rfl rfl rfl rfl rfl rfl sl28 (by simp only [List.length_singleton]; omega) rfl rfl rfl rfl) (goAs rfl rfl (Zac (Zab (Zaa.go (Zay rfl rfl (wrapS (k + 1) (by omega)) rfl) (goMv rfl rfl (Zac ?_))))))));exact ⟨(k + 1,_),⟨by show k + 1 ≤ _; omega,by show _ = onIds its on (k + 1); rw [onIds_snoc,if_pos (by rw [← hoi]; simpa using h52), ← hI, ← hit]⟩,by show N.nd.length - (k + 1) < N.nd.length - k; omega,Zaq hF [901,900,40,50,51] rfl (rfl) ⟨rfl,rfl,rfl,rfl,rfl,trivial⟩⟩
      · refine Zap (Zab (Zaa.go (Zay rfl rfl (wrapS (k + 1) (by omega)) rfl) (goMv rfl rfl (Zac ?_))));exact ⟨(k + 1,_),⟨by show k + 1 ≤ _; omega,by show _ = onIds its on (k + 1); rw [onIds_snoc,if_neg (by rw [← hoi]; simpa using h52),List.append_nil, ← hI]⟩,by show N.nd.length - (k + 1) < N.nd.length - k; omega,Zaq hF [901,900,40,50,51] rfl (rfl) ⟨rfl,rfl,rfl,rfl,rfl,trivial⟩⟩
    · refine ZaL (Zad ?_);have hke : k = its.length := by have h := h46; omega
      refine ZbH (emb := excD) 7 900 acc rfl rfl rfl rfl rfl rfl rfl ?_;refine ZbH (emb := intD) 10 901 ids rfl rfl rfl rfl rfl rfl rfl (Zab (goMv rfl rfl (goMv rfl rfl (goAs rfl rfl (goAs rfl rfl (goAs rfl rfl (Zac (Zao ?_))))))));exact ⟨_,[],[],Zak rfl,rfl,rfl,by rw [← hr2, ← hr1,hI,hke],rfl⟩
  · refine Zaa.go (ZaR rfl rfl rfl) (Zaa.go (ZaR rfl rfl rfl) (Zaj.go (ZaQ 4 zl53 rfl rfl rfl rfl) (Zaj.go (Zaz rfl rfl rfl rfl rfl rfl rfl sz53) (goAs rfl rfl (Zac ?_)))));refine Zad (Zad (Zab (goMv rfl rfl (Zaa.go (st_not rfl rfl) (Zac (Za9 rfl (rfl) (Zap (Zad ?_))))))))
    rename_i e
    obtain ⟨i,x,hx,hon,hid⟩ := next_on hne;obtain ⟨hiN,hoi,hit⟩ := S_nd_at hN hx;rw [hon] at hoi;have hoi := hoi.symm;have hil : i < (its.map Itm.id).length := by rw [List.length_map]; exact hiN
    have hei : (its.map Itm.id)[i] = e.id := by rw [hid,hit,List.getElem_map,ZaH itm0 hiN]
    have hby := byL_get (nb := nb) hsm.i hil;rw [hei] at hby;have hcn := cntOn_off hiN hoi
    obtain ⟨f2,rfl⟩ : ∃ f2,f = f2 + 1 := ⟨f - 1,by omega⟩
    have hrs : runS ros its (f2 + 1) on = (e :: (runS ros its f2 (setOff on i)).1,(runS ros its f2 (setOff on i)).2) := by rw [run_some (by rw [← hN,next_ers,hne]), ← hei,idx_nodup hsm.i hil]
    have hxm := List.mem_of_getElem? hx;have hrm := remove_c hR hx hsb (hw.e x hxm) (hw.l x hxm).1 (hw.l x hxm).2.1 (fun e he => (hw.p x hxm e he).2) hw.m;refine ZaT [[],[0],[0,1],[0,1,2],[],[4],[0,1,2,3,4,5],[0,1,2,3,4,5,6]] mixed rfl (dws (Zaf [5] [] rfl rfl (fun _ => Zae (Zar rfl rfl)) (Zaf [28] [] rfl rfl (fun _ => Zae (Zax rfl rfl)) ?_)));refine Zaf [29] [] rfl rfl (fun _ => Zae (Zav rfl fi108_2 rfl rfl rfl)) (Zaf [30] [40] rfl rfl (fun _ => Zae (ZaV (f := 40) rfl rfl (hR.w) rfl on106 rfl)) (Zaf [8] [] rfl rfl (fun _ => Zae (Zag rfl fi53_0 rfl rfl rfl)) (Zaf [32] [4] rfl rfl (fun _ => Zae (Zah rfl rfl rfl on3 rfl)) (dwc 6 rfl rfl rfl (dw1 7 rfl rfl (o_rawMap 31 51 0 rfl rfl (Zaa.go (Zbw (byL nb (its.map Itm.id)) e.id (.pointer none) (pV (nb i) 0) rfl rfl rfl mt106 kt3 za103 hby rfl) (Zac ⟨rfl, ?_⟩))))))));refine dw1 8 rfl rfl ?_;refine o_step (st_callX hrm rfl [40] ⟨rfl,trivial⟩ rfl rfl rfl rfl (fun r H' ⟨e1,M',e2,_⟩ => by subst e1 e2; exact ⟨rfl,rfl,rfl⟩) rfl) rfl ?_; rintro _ ⟨r,H',⟨rfl,M2,rfl,hR2⟩,rfl⟩;refine Zac ⟨rfl, ?_⟩;refine dwe (Zab (goMv rfl rfl (Zaa.go (Zas rfl rfl rw53 rfl rfl rfl) (Zaj.go (ZaD 5 sl42 rfl rfl rfl rfl rfl rfl rfl rfl) (Zaj.go (Zbc (acc) ([e]) rfl rfl rfl rfl rfl rfl rfl rfl sl42 (by simp only [List.length_singleton]; omega) rfl rfl rfl rfl) (goAs rfl rfl (Zac ?_)))))));exact ⟨(setOff on i,rmN N i x,M2,acc ++ [e],f2),⟨hR2,rm_S hsm.r hN hiN hoi hx,by show cntOn its.length (setOff on i) ≤ f2; omega,by show (acc ++ [e]).length + f2 ≤ _; rw [List.length_append]; simp; omega,by show (acc ++ [e]) ++ (runS ros its f2 (setOff on i)).1 = _; rw [List.append_assoc, ← hr1,hrs]; rfl,by show (runS ros its f2 (setOff on i)).2 = _; rw [← hr2,hrs]⟩,by show f2 < f2 + 1; omega,Zaq hF [900,40,50,51] rfl (rfl) ⟨rfl,rfl,trivial⟩⟩
theorem has30_p (l : List Int) (x : Int) (hn : l.length ≤ 140737488355328) : PCalls Tryz.prog 29 [.d (.sl none (l.map intD)), .d (intD x)] (.raw (.bool (decide (x ∈ l)))) := by
  refine ZaB Tryz.func29 rfl rfl Tryz.ntmps29 rfl rfl rfl fun F hF => (Zad (Zab ?_));refine goAs rfl rfl (Zac (Zad (Zad (Zab (goAs rfl rfl (Zac (Zam (a_loop (α := Nat) (fun k => ⟨18,[(0, .d (.sl none (l.map intD))),(1, .d (intD x)),(5,(.d (intD (k : Int))))],[]⟩) (fun k => k ≤ l.length ∧ x ∉ l.take k) (fun k => l.length - k) (0) (⟨Nat.zero_le _,by simp⟩) (le_of_has ⟨rfl,rfl,rfl,trivial⟩) ?_))))))));rintro k ⟨hk0,hk⟩;refine Zad (Zad (Zab (goMv rfl rfl (goMv rfl rfl (Zaa.go (ZaA rfl Tryz.underlying28 rfl) (Zaa.go (ZaI rfl rfl rfl) (Zac (ZaF rfl (fun h9 => ?_) (fun h9 => ?_)))))))))
  · have hk1 : k < l.length := ZaN h9;refine Zap (Zad (Zam (Zad ?_)));refine Zab (goMv rfl rfl (goMv rfl rfl (Zaa.go (Zat (k) rfl rfl (rfl) (getm hk1) Tryz.underlying28 rfl sz3 rfl) (Zaa.go (ZaE rfl rfl on3 rfl) (goMv rfl rfl (Zaa.go (Zbn rfl rfl rfl) (Zac (ZaF rfl (fun h17 => ?_) (fun h17 => ?_)))))))))
    · refine Zad (Zab (goAs rfl rfl (Zac (Zao ?_))));exact ⟨_,[],[],Zak rfl,rfl,rfl,retT (by rw [← h17]; exact List.getElem_mem hk1),rfl⟩
    · refine Zap (Zab (goMv rfl rfl (Zaa.go (Zay rfl rfl (wrapS (k + 1) (by omega)) rfl) (goAs rfl rfl (Zac ?_)))));exact ⟨k + 1,⟨by show k + 1 ≤ _; omega,not_mem_take_succ hk1 hk (fun e => h17 e.symm)⟩,by show l.length - (k + 1) < l.length - k; omega,⟨rfl,rfl,fun _ _ => Has.get (l := [(0,_),(1,_),(5,_)]) ⟨rfl,rfl,rfl,trivial⟩⟩⟩
  · refine ZaL (Zad (Zab (goAs rfl rfl (Zac (Zao ?_)))));exact ⟨_,[],[],Zak rfl,rfl,rfl,retF (mem_of_take (by have h := h9; omega) hk),rfl⟩
theorem PC.le {γ : Type} {c : γ → γ → Int} (h : PC c) {x y z : γ} (h1 : c x y ≤ 0) (h2 : c y z ≤ 0) : c x z ≤ 0 := by
  by_cases e1 : c x y = 0
  · rw [h.eqv x y z e1]; exact h2
  · by_cases e2 : c y z = 0
    · have a1 := h.anti y z;have e3 : c z y = 0 := by omega
      have a2 := h.eqv z y x e3;have a3 := h.anti z x;have a4 := h.anti y x;omega
    · have := h.trans x y z (by omega) (by omega); omega
theorem ins_sorted {γ : Type} {c : γ → γ → Int} (h : PC c) {acc : List γ} {m : Nat} {x : γ} (hs : acc.Pairwise fun a b => ¬ c b a < 0) (h1 : ∀ y ∈ acc.take m,c y x < 0) (h2 : ∀ y,acc[m]? = some y → ¬ c y x < 0) : ((acc.take m ++ [x]) ++ acc.drop m).Pairwise fun a b => ¬ c b a < 0 := by
  have hd : ∀ y ∈ acc.drop m, ¬ c y x < 0 := fun y hy => by
    cases hm : acc[m]? with
    | none =>
      rw [List.drop_of_length_le (List.getElem?_eq_none_iff.1 hm)] at hy; cases hy
    | some z =>
      obtain ⟨hlt,hz⟩ := List.getElem?_eq_some_iff.1 hm;rw [List.drop_eq_getElem_cons hlt] at hy;have hz2 := h2 z hm;rcases List.mem_cons.1 hy with hy | hy
      · rw [hy,hz]; exact hz2
      · have hp : (acc.drop m).Pairwise fun a b => ¬ c b a < 0 := hs.sublist (List.drop_sublist _ _);rw [List.drop_eq_getElem_cons hlt,List.pairwise_cons] at hp;have h3 := hp.1 y hy;rw [hz] at h3;have a1 := h.anti z x; have a2 := h.anti y z; have a3 := h.anti y x;have := h.le (x := x) (y := z) (z := y) (by omega) (by omega);omega
  rw [List.pairwise_append];refine ⟨?_,hs.sublist (List.drop_sublist _ _),fun a ha b hb => ?_⟩
  · rw [List.pairwise_append];refine ⟨hs.sublist (List.take_sublist _ _),List.pairwise_singleton _ _,fun a ha b hb => ?_⟩;rw [List.mem_singleton.1 hb];have := h1 a ha; have a1 := h.anti a x; omega
  · rcases List.mem_append.1 ha with ha | ha
    · have h3 := h1 a ha;have h4 := hd b hb;have a1 := h.anti a b; have a2 := h.anti b x;have := h.le (x := a) (y := x) (z := b) (by omega) (by omega);omega
    · rw [List.mem_singleton.1 ha]; exact hd b hb
theorem ins_perm {γ : Type} {acc : List γ} {m : Nat} {x : γ} : ((acc.take m ++ [x]) ++ acc.drop m).Perm (acc ++ [x]) := by
  have h : (acc.take m ++ (x :: acc.drop m)).Perm (x :: (acc.take m ++ acc.drop m)) := List.perm_middle;rw [List.take_append_drop] at h;rw [List.append_assoc];exact h.trans (List.perm_append_singleton x acc).symm
theorem rsc_one {γ : Type} (f : γ → Rsc) {l m ys : List γ} (hn : (l.map f).Nodup) (hm : m.Perm l) (hms : m.Pairwise fun a b => ¬ cmpR (f b) (f a) < 0) (h1 : ys.Perm l) (h2 : ys.Pairwise fun a b => ¬ cmpR (f b) (f a) < 0) : ys = m := by
  have st : ∀ {k : List γ},(k.map f).Nodup → (k.Pairwise fun a b => ¬ cmpR (f b) (f a) < 0) → k.Pairwise fun a b => cmpR (f a) (f b) < 0 := fun {k} hn h => by
    rw [List.Nodup,List.pairwise_map] at hn;refine (h.and hn).imp fun {a b} ⟨g1,g2⟩ => ?_;have h1 := ZbK.anti (f a) (f b);have h2 : cmpR (f a) (f b) ≠ 0 := fun e => g2 (cmpR_zero.1 e);omega
  exact strict_one (R := fun a b => cmpR (f a) (f b) < 0) (fun x => by rw [ZbK.refl]; omega) (fun x y z => ZbK.trans _ _ _) (st ((h1.map f).nodup_iff.2 hn) h2) (st ((hm.map f).nodup_iff.2 hn) hms) fun x => by rw [h1.mem_iff,hm.mem_iff]
theorem sortX_sorted (rs : List Rsc) : (sortX rs).Pairwise fun a b => ¬ cfI rs b a < 0 := by
  have := List.pairwise_mergeSort (le := fun i j => decide (cfI rs i j ≤ 0)) (fun a b c h1 h2 => ?_) (fun a b => ?_) (List.range rs.length)
  · refine List.Pairwise.imp (fun {a b} h => ?_) this;have h1 := (ZbR rs).anti a b;have h2 : cfI rs a b ≤ 0 := by simpa using h
    omega
  · have h1' : cfI rs a b ≤ 0 := by simpa using h1
    have h2' : cfI rs b c ≤ 0 := by simpa using h2
    have : cfI rs a c ≤ 0 := by
      by_cases e1 : cfI rs a b = 0
      · rw [(ZbR rs).eqv a b c e1]; exact h2'
      · by_cases e2 : cfI rs b c = 0
        · have a1 := (ZbR rs).anti b c;have e3 := (ZbR rs).eqv c b a (by omega);have a2 := (ZbR rs).anti a c;have a3 := (ZbR rs).anti a b;omega
        · have := (ZbR rs).trans a b c (by omega) (by omega); omega
    simpa using this
  · have h1 := (ZbR rs).anti a b
    by_cases h : cfI rs a b ≤ 0
    · simp [h]
    · have : cfI rs b a ≤ 0 := by omega
      simp [this]
theorem rosS_perm (p : Prb) : (rosS p).Perm p.ro := by
  unfold rosS;refine ((ZbI (p.ro.map Roo.r)).map _).trans (List.Perm.of_eq ?_);rw [List.length_map]
  apply List.ext_getElem (by simp)
  intro i h1 h2;simp only [List.getElem_map,List.getElem_range];exact ZaH roo0 (by simpa using h2)
theorem rosS_sorted (p : Prb) : (rosS p).Pairwise fun a b => ¬ cmpR b.r a.r < 0 := by
  unfold rosS;rw [List.pairwise_map];refine List.Pairwise.imp_of_mem (fun {a b} ha hb h => ?_) (sortX_sorted (p.ro.map Roo.r));have ha' := List.mem_range.1 ((ZbI (p.ro.map Roo.r)).mem_iff.1 ha);have hb' := List.mem_range.1 ((ZbI (p.ro.map Roo.r)).mem_iff.1 hb);unfold cfI at h;rw [rs_getD (by simpa using hb'),rs_getD (by simpa using ha')] at h;exact h
theorem rosS_oneN {p : Prb} (hp : (p.ro.map Roo.r).Nodup) {ys : List Roo} (h1 : ys.Perm p.ro) (h2 : ys.Pairwise fun a b => ¬ cmpR b.r a.r < 0) : ys = rosS p :=
  rsc_one Roo.r (l := p.ro) hp (rosS_perm p) (rosS_sorted p) h1 h2
theorem rosS_one {p : Prb} (hp : prbE p = 0) {ys : List Roo} (h1 : ys.Perm p.ro) (h2 : ys.Pairwise fun a b => ¬ cmpR b.r a.r < 0) : ys = rosS p := rosS_oneN (roos_nodup hp) h1 h2
theorem cmpRoo_pc : PC fun x y : Roo => cmpR x.r y.r := ZbK.comap Roo.r
set_option maxHeartbeats 1000000 in
theorem rooms30_n (p : Prb) (hp : (p.ro.map Roo.r).Nodup) (hl : p.ro.length ≤ 100000) : PCalls Tryz.prog 70 [.d (prbD p)] (.sl none ((rosS p).map rooD)) := by
  refine ZaB Tryz.func70 rfl rfl Tryz.ntmps70 rfl rfl rfl fun F hF => (Zad (Zab ?_));refine Zaj.go (ZaS 1 rfl rfl rfl rfl rfl rfl rfl) (goAs rfl rfl (Zac (Zad (Zab (goAs rfl rfl (Zac (Zad (Zad ?_))))))));refine a_anyNil 3 rfl ?_;refine Zab (goAs rfl rfl (Zac (Zam (ZaK (α := Nat × List Roo) (fun q => ⟨51,[(1,(.ptr 1 0 0)),(3,(.d (.sl none (q.2.map rooD)))),(4,(.d (intD (q.1 : Int))))],[(1,[prbB2 25 p])]⟩) (fun q => q.1 ≤ p.ro.length ∧ q.2.Perm (p.ro.take q.1) ∧ q.2.Pairwise fun a b => ¬ cmpR b.r a.r < 0) (fun q => p.ro.length - q.1) ((0,[])) (⟨Nat.zero_le _,by simp,List.Pairwise.nil⟩) (Zaq hF [1] rfl rfl ⟨rfl,rfl,rfl,trivial⟩) ?_))));rintro ⟨k,acc⟩ ⟨hk0,hP,hS⟩;dsimp only at hk0 hP hS ⊢;refine Zad ?_;refine Zad (Zab (goMv rfl rfl (Zaa.go (Zag rfl ZaY rfl rfl rfl) (Zaa.go (Zah rfl rfl rfl on22 rfl) (Zaa.go (ZaA rfl Tryz.underlying22 rfl) (Zaa.go (ZaI rfl rfl rfl) (Zac (ZaF rfl (fun h10 => ?_) (fun h10 => ?_)))))))))
  · have hk1 : k < p.ro.length := ZaN h10;refine Zap (Zad (Zam (Zad ?_)));have hal : acc.length ≤ 100000 := by rw [hP.length_eq,List.length_take]; omega
    refine Zab (goAs rfl rfl (Zac (Zad (Zam (ZaK (α := Nat) (fun m => ⟨51,[(1,(.ptr 1 0 0)),(3,(.d (.sl none (acc.map rooD)))),(4,(.d (intD (k : Int)))),(5,(.d (intD (m : Int))))],[(1,[prbB2 25 p])]⟩) (fun m => m ≤ acc.length ∧ ∀ y ∈ acc.take m,cmpR y.r p.ro[k].r < 0) (fun m => acc.length - m) (0) (⟨Nat.zero_le _,by simp⟩) (Zaq hF [1] rfl rfl ⟨rfl,rfl,rfl,rfl,trivial⟩) ?_)))));rintro m ⟨hm0,hm⟩;refine Zad (Zad ?_);refine ZaT [[],[],[1],[0,1,2],[0,1,2,3],[0,1,2,3,4],[0,1,2,3,4],[0,1,2,3,4,5,6],[0,1,2,3,4,5,6,7],[0,1,2,3,4,5,6,7,8],[0,1,2,3,4],[0,1,2,3,4,10],[0,1,2,3,4],[0,1,2,3,4,10,11,12],[0,1,2,3,4,10,11,12,13],[0,1,2,3,4,10,11,12,13,14],[0,1,2,3,4,5,6,7,8,9,10,11,12,13,14,15],[0,1,2,3,4,5,6,7,8,9,10,11,12,13,14,15,16],[0,1,2,3,4,5,6,7,8,9,10,11,12,13,14,15,16,17]] mixed rfl (dws (Zaf [5] [] rfl rfl (fun _ => Zae (Zar rfl rfl)) (Zaf [3] [] rfl rfl (fun _ => Zae (Zar rfl rfl)) (Zaf [14] [] rfl rfl (fun _ => Zae (ZaA rfl Tryz.underlying22 rfl)) (dwc 3 rfl rfl rfl (dw1 4 rfl rfl (Zaa.go (ZaI rfl rfl rfl) (Zac ⟨rfl, ?_⟩))))))));refine dw1 5 rfl rfl (goMv rfl rfl (ZaP 17 rfl (fun h17 => ?_) (fun h17 => ?_)))
    · refine Zac ⟨rfl, ?_⟩;refine dws ?_
      try have hm1 : m < acc.length := ZaN h17
      refine Zaf [3,17] [] rfl rfl (fun _ => ZaX rfl rfl rfl (Zar rfl rfl)) (Zaf [5,17] [] rfl rfl (fun _ => ZaX rfl rfl rfl (Zar rfl rfl)) (Zaf [18,19,17] [] rfl rfl (fun _ => ZaX rfl rfl rfl (Zat (m) rfl rfl (rfl) (getm hm1) Tryz.underlying22 rfl sz67 rfl)) (Zaf [20,17] [] rfl rfl (fun _ => ZaX rfl rfl rfl (ZaM rfl Zbo rfl rfl rfl)) (Zaf [21,17] [] rfl rfl (fun _ => ZaX rfl rfl rfl (ZaC rfl rfl rw56 rfl)) (Zaf [1,17] [] rfl rfl (fun _ => ZaX rfl rfl rfl (Zag rfl ZaY rfl rfl rfl)) (Zan [23,17] rfl rfl (fun _ => ZaX rfl rfl rfl (Zah rfl rfl rfl on22 rfl)) ?_))))));refine Zaf [4,17] [] rfl rfl (fun _ => ZaX rfl rfl rfl (Zar rfl rfl)) (Zaf [24,25,17] [] rfl rfl (fun _ => ZaX rfl rfl rfl (Zat (k) rfl rfl (rfl) (getm hk1) Tryz.underlying22 rfl sz67 rfl)) (Zaf [26,17] [] rfl rfl (fun _ => ZaX rfl rfl rfl (ZaM rfl Zbo rfl rfl rfl)) (Zaf [27,17] [] rfl rfl (fun _ => ZaX rfl rfl rfl (ZaC rfl rfl rw56 rfl)) (dwc 16 rfl rfl rfl (dw1 17 rfl rfl (Zal rfl rfl rfl (Zaa.go (Zau (refcompare_p acc[m].r p.ro[k].r) rfl rfl) (Zac ⟨rfl, ?_⟩))))))));refine dw1 18 rfl rfl (Zal rfl rfl rfl (Zaa.go (ZaI rfl rfl rfl) (Zac ⟨rfl, ?_⟩)));refine dw1 19 rfl rfl (Zaa.go (Zaw rfl rfl rfl rfl) (Zac ⟨rfl, ?_⟩));refine dwe (ZaF rfl (fun h31 => ?_) (fun h31 => ?_))
      · refine Zap (Zam (Zab (goMv rfl rfl (Zaa.go (Zay rfl rfl (wrapS (m + 1) (by omega)) rfl) (goAs rfl rfl (Zac ?_))))));exact ⟨m + 1,⟨by show m + 1 ≤ _; omega,by rw [List.take_succ_eq_append_getElem hm1]; intro y hy; rcases List.mem_append.1 hy with hy | hy; exact hm y hy; rw [List.mem_singleton.1 hy]; exact h31⟩,by show acc.length - (m + 1) < acc.length - m; omega,Zaq hF [1] rfl (rfl) ⟨rfl,rfl,rfl,rfl,trivial⟩⟩
      · refine ZaL ?_;have hstop : ∀ y,acc[m]? = some y → ¬ cmpR y.r p.ro[k].r < 0 := by first | (intro y hy; have h3 := (List.getElem?_eq_some_iff.1 hy).1; exact absurd h3 (by have h := h17; omega)) | (intro y hy; rw [List.getElem?_eq_getElem hm1] at hy; injection hy with hy; rw [← hy]; exact h31)
        refine ZaT [[],[],[],[1,2],[0,1,2,3],[],[5],[],[5,6,7],[5,6,7,8],[5,6,7,8,9],[0,1,2,3,4,5,6,7,8,9,10],[],[],[12,13],[0,1,2,3,4,5,6,7,8,9,10,11,12,13,14],[0,1,2,3,4,5,6,7,8,9,10,11,12,13,14,15]] mixed rfl (dws (Zbf [] [20] [(34,_)] rfl rfl (fun _ => Za5 (ZaD 20 sl22 rfl rfl rfl rfl rfl rfl rfl rfl)) (.inr ⟨34,_,rfl,rfl,rfl,rfl,rfl⟩) rfl rfl rfl rfl rfl (Zaf [3] [] rfl rfl (fun _ => Zae (Zar rfl rfl)) ?_)));refine Zaf [5] [] rfl rfl (fun _ => Zae (Zar rfl rfl)) (Zaf [35,36] [] rfl rfl (fun _ => Zae (ZbS (acc) (m) rfl rfl rfl (rfl) (by omega) Tryz.underlying22 sz67 (fun _ => rfl) rfl)) (Zbf [34,37] [20] [(38,_)] rfl rfl (fun _ => Za5 (Zbj (([] : List Roo)) (acc.take m) rfl rfl rfl rfl rfl rfl (fun _ => rfl) sl22 (by simp only [List.length_nil,List.length_take]; omega) rfl rfl rfl rfl)) (.inr ⟨38,_,rfl,rfl,rfl,rfl,rfl⟩) rfl rfl rfl rfl rfl (Zaf [1] [] rfl rfl (fun _ => Zae (Zag rfl ZaY rfl rfl rfl)) (Zaf [39] [1] rfl rfl (fun _ => Zae (Zah rfl rfl rfl on22 rfl)) (Zaf [4] [] rfl rfl (fun _ => Zae (Zar rfl rfl)) (Zaf [40,41] [] rfl rfl (fun _ => Zae (Zat (k) rfl rfl (rfl) (getm hk1) Tryz.underlying22 rfl sz67 rfl)) (Zaf [42] [] rfl rfl (fun _ => Zae (ZaC rfl rfl rw67 rfl)) (Zbf [43] [21] [(44,_)] rfl rfl (fun _ => Za5 (ZaD 21 sl22 rfl rfl rfl rfl rfl rfl rfl rfl)) (.inr ⟨44,_,rfl,rfl,rfl,rfl,rfl⟩) rfl rfl rfl rfl rfl ?_))))))));refine d_effX [34] [38,44] [20,21] [(45,_)] rfl rfl (fun _ => Za5 (Zbc (([] ++ acc.take m)) ([p.ro[k]]) rfl rfl rfl rfl rfl rfl rfl rfl sl22 (by simp only [List.nil_append,List.length_singleton,List.length_take]; omega) rfl rfl rfl rfl)) (.inr ⟨45,_,rfl,rfl,rfl,rfl,rfl⟩) rfl rfl rfl rfl rfl ?_;refine Zaf [3] [] rfl rfl (fun _ => Zae (Zar rfl rfl)) (Zaf [5] [] rfl rfl (fun _ => Zae (Zar rfl rfl)) (Zaf [46,47] [] rfl rfl (fun _ => Zae (Zb9 (acc) (m) rfl rfl rfl (rfl) (by omega) Tryz.underlying22 sz67 (fun _ => rfl) rfl)) (dwc 15 rfl rfl rfl (dw1 16 rfl rfl ?_))));refine Zaj.go (Zbj ((([] ++ acc.take m) ++ [p.ro[k]])) (acc.drop m) rfl rfl rfl rfl rfl rfl (fun _ => rfl) sl22 (by simp only [List.nil_append,List.length_append,List.length_singleton,List.length_take,List.length_drop]; omega) rfl rfl rfl rfl) ?_;refine Zac ⟨rfl, ?_⟩;refine dw1 17 rfl rfl (goAs rfl rfl (Zac ⟨rfl, ?_⟩));refine dwe (ZbH (emb := rooD) 3 20 ((([] ++ acc.take m) ++ [p.ro[k]]) ++ acc.drop m) rfl rfl rfl rfl rfl rfl rfl (Zab (goMv rfl rfl (Zaa.go (Zay rfl rfl (wrapS (k + 1) (by omega)) rfl) (goAs rfl rfl (Zac ?_))))));exact ⟨(k + 1,_),⟨by show k + 1 ≤ _; omega,by show (((([] ++ acc.take m) ++ [p.ro[k]]) ++ acc.drop m) : List Roo).Perm (p.ro.take (k + 1)); rw [List.take_succ_eq_append_getElem hk1,List.nil_append]; exact ins_perm.trans (hP.append_right _),by show (((([] ++ acc.take m) ++ [p.ro[k]]) ++ acc.drop m) : List Roo).Pairwise _; rw [List.nil_append]; exact ins_sorted cmpRoo_pc hS hm hstop⟩,by show p.ro.length - (k + 1) < p.ro.length - k; omega,Zaq hF [1] rfl (rfl) ⟨rfl,rfl,rfl,trivial⟩⟩
    · refine Zac ⟨rfl, ?_⟩;refine dws ?_
      try have hm1 : m < acc.length := ZaN h17
      refine Zaf [3,17] [] rfl rfl (fun _ => ZaZ rfl rfl rfl rfl) (Zaf [5,17] [] rfl rfl (fun _ => ZaZ rfl rfl rfl rfl) (Zaf [18,19,17] [] rfl rfl (fun _ => ZaZ rfl rfl rfl rfl) (Zaf [20,17] [] rfl rfl (fun _ => ZaZ rfl rfl rfl rfl) (Zaf [21,17] [] rfl rfl (fun _ => ZaZ rfl rfl rfl rfl) (Zaf [1,17] [] rfl rfl (fun _ => ZaZ rfl rfl rfl rfl) ?_)))));refine Zaf [23,17] [] rfl rfl (fun _ => ZaZ rfl rfl rfl rfl) (Zaf [4,17] [] rfl rfl (fun _ => ZaZ rfl rfl rfl rfl) (Zaf [24,25,17] [] rfl rfl (fun _ => ZaZ rfl rfl rfl rfl) (Zaf [26,17] [] rfl rfl (fun _ => ZaZ rfl rfl rfl rfl) (Zaf [27,17] [] rfl rfl (fun _ => ZaZ rfl rfl rfl rfl) (dwc 16 rfl rfl rfl (dw1 17 rfl rfl (Zai rfl rfl rfl rfl (Zac ⟨rfl, ?_⟩))))))));refine dw1 18 rfl rfl (Zai rfl rfl rfl rfl (Zac ⟨rfl, ?_⟩));refine dw1 19 rfl rfl (Zaa.go (ZaG rfl rfl rfl rfl) (Zac ⟨rfl, ?_⟩));refine dwe (Za9 rfl rfl (ZaL ?_));have hstop : ∀ y,acc[m]? = some y → ¬ cmpR y.r p.ro[k].r < 0 := by first | (intro y hy; have h3 := (List.getElem?_eq_some_iff.1 hy).1; exact absurd h3 (by have h := h17; omega)) | (intro y hy; rw [List.getElem?_eq_getElem hm1] at hy; injection hy with hy; rw [← hy]; exact h31)
      refine ZaT [[],[],[],[1,2],[0,1,2,3],[],[5],[],[5,6,7],[5,6,7,8],[5,6,7,8,9],[0,1,2,3,4,5,6,7,8,9,10],[],[],[12,13],[0,1,2,3,4,5,6,7,8,9,10,11,12,13,14],[0,1,2,3,4,5,6,7,8,9,10,11,12,13,14,15]] mixed rfl (dws (Zbf [] [20] [(34,_)] rfl rfl (fun _ => Za5 (ZaD 20 sl22 rfl rfl rfl rfl rfl rfl rfl rfl)) (.inr ⟨34,_,rfl,rfl,rfl,rfl,rfl⟩) rfl rfl rfl rfl rfl (Zaf [3] [] rfl rfl (fun _ => Zae (Zar rfl rfl)) ?_)));refine Zaf [5] [] rfl rfl (fun _ => Zae (Zar rfl rfl)) (Zaf [35,36] [] rfl rfl (fun _ => Zae (ZbS (acc) (m) rfl rfl rfl (rfl) (by omega) Tryz.underlying22 sz67 (fun _ => rfl) rfl)) (Zbf [34,37] [20] [(38,_)] rfl rfl (fun _ => Za5 (Zbj (([] : List Roo)) (acc.take m) rfl rfl rfl rfl rfl rfl (fun _ => rfl) sl22 (by simp only [List.length_nil,List.length_take]; omega) rfl rfl rfl rfl)) (.inr ⟨38,_,rfl,rfl,rfl,rfl,rfl⟩) rfl rfl rfl rfl rfl (Zaf [1] [] rfl rfl (fun _ => Zae (Zag rfl ZaY rfl rfl rfl)) (Zaf [39] [1] rfl rfl (fun _ => Zae (Zah rfl rfl rfl on22 rfl)) (Zaf [4] [] rfl rfl (fun _ => Zae (Zar rfl rfl)) (Zaf [40,41] [] rfl rfl (fun _ => Zae (Zat (k) rfl rfl (rfl) (getm hk1) Tryz.underlying22 rfl sz67 rfl)) (Zaf [42] [] rfl rfl (fun _ => Zae (ZaC rfl rfl rw67 rfl)) (Zbf [43] [21] [(44,_)] rfl rfl (fun _ => Za5 (ZaD 21 sl22 rfl rfl rfl rfl rfl rfl rfl rfl)) (.inr ⟨44,_,rfl,rfl,rfl,rfl,rfl⟩) rfl rfl rfl rfl rfl ?_))))))));refine d_effX [34] [38,44] [20,21] [(45,_)] rfl rfl (fun _ => Za5 (Zbc (([] ++ acc.take m)) ([p.ro[k]]) rfl rfl rfl rfl rfl rfl rfl rfl sl22 (by simp only [List.nil_append,List.length_singleton,List.length_take]; omega) rfl rfl rfl rfl)) (.inr ⟨45,_,rfl,rfl,rfl,rfl,rfl⟩) rfl rfl rfl rfl rfl ?_;refine Zaf [3] [] rfl rfl (fun _ => Zae (Zar rfl rfl)) (Zaf [5] [] rfl rfl (fun _ => Zae (Zar rfl rfl)) (Zaf [46,47] [] rfl rfl (fun _ => Zae (Zb9 (acc) (m) rfl rfl rfl (rfl) (by omega) Tryz.underlying22 sz67 (fun _ => rfl) rfl)) (dwc 15 rfl rfl rfl (dw1 16 rfl rfl ?_))));refine Zaj.go (Zbj ((([] ++ acc.take m) ++ [p.ro[k]])) (acc.drop m) rfl rfl rfl rfl rfl rfl (fun _ => rfl) sl22 (by simp only [List.nil_append,List.length_append,List.length_singleton,List.length_take,List.length_drop]; omega) rfl rfl rfl rfl) ?_;refine Zac ⟨rfl, ?_⟩;refine dw1 17 rfl rfl (goAs rfl rfl (Zac ⟨rfl, ?_⟩));refine dwe (ZbH (emb := rooD) 3 20 ((([] ++ acc.take m) ++ [p.ro[k]]) ++ acc.drop m) rfl rfl rfl rfl rfl rfl rfl (Zab (goMv rfl rfl (Zaa.go (Zay rfl rfl (wrapS (k + 1) (by omega)) rfl) (goAs rfl rfl (Zac ?_))))));exact ⟨(k + 1,_),⟨by show k + 1 ≤ _; omega,by show (((([] ++ acc.take m) ++ [p.ro[k]]) ++ acc.drop m) : List Roo).Perm (p.ro.take (k + 1)); rw [List.take_succ_eq_append_getElem hk1,List.nil_append]; exact ins_perm.trans (hP.append_right _),by show (((([] ++ acc.take m) ++ [p.ro[k]]) ++ acc.drop m) : List Roo).Pairwise _; rw [List.nil_append]; exact ins_sorted cmpRoo_pc hS hm hstop⟩,by show p.ro.length - (k + 1) < p.ro.length - k; omega,Zaq hF [1] rfl (rfl) ⟨rfl,rfl,rfl,trivial⟩⟩
  · refine ZaL (Zad (Zab (goMv rfl rfl (goAs rfl rfl (Zac (Zao ?_))))));exact ⟨_,[],[],Zak rfl,rfl,rfl,by rw [rosS_oneN hp (by have h4 := hP; rw [List.take_of_length_le (by have h := h10; omega)] at h4; exact h4) hS],rfl⟩
theorem rooms30_p (p : Prb) (hp : prbE p = 0) (hl : p.ro.length ≤ 100000) : PCalls Tryz.prog 70 [.d (prbD p)] (.sl none ((rosS p).map rooD)) := rooms30_n p (roos_nodup hp) hl
def largeS (p : Prb) : List Int := onIds (ordP p) (explS p).2 (ordP p).length
theorem order30_p (p : Prb) (g2 : p.it.length ≤ 1000) : PCalls Tryz.prog 33 [.d (prbD p)] (.sl none (((sortO p.it).map Itm.id).map intD)) := by
  have hso := refsorted_p p.it g2;have hSl := ZbP p.it
  obtain ⟨S,hS⟩ : ∃ S,sortO p.it = S := ⟨_,rfl⟩
  rw [hS] at hso hSl ⊢;refine ZaB Tryz.func33 rfl rfl Tryz.ntmps33 rfl rfl rfl fun F hF => (Zad (Zab (Zaj.go (ZaS 1 rfl rfl rfl rfl rfl rfl rfl) (goAs rfl rfl (Zac (Zad ?_))))));refine Zab (Zaa.go (Zag rfl Za3 rfl rfl rfl) (Zaa.go (Zah rfl rfl rfl on23 rfl) (Zaa.go (Zau (hso) rfl rfl) (goAs rfl rfl (Zac (Zad (Zab (goAs rfl rfl ?_))))))));refine Zac (Zad (Zad (a_adopt 4 900 sl28 rfl rfl rfl rfl (Zab (goAs rfl rfl (Zac (Zam (ZaK (α := Nat × List Int) (fun q => ⟨24,[(3,(.d (.sl none (S.map itmD)))),(4,(.own 900 0 q.2.length)),(5,(.d (intD (q.1 : Int))))],[(900,[.rowD 3 1 (q.2.map intD)])]⟩) (fun q => q.1 ≤ S.length ∧ q.2 = (S.take q.1).map Itm.id) (fun q => S.length - q.1) ((0,[])) (⟨Nat.zero_le _,rfl⟩) (Zaq hF [900] rfl rfl ⟨rfl,rfl,rfl,trivial⟩) ?_))))))));rintro ⟨k,acc⟩ ⟨hk0,hA⟩;dsimp only at hk0 hA ⊢;refine Zad (Zad (Zab (goMv rfl rfl (goMv rfl rfl (Zaa.go (ZaA rfl Tryz.underlying23 rfl) (Zaa.go (ZaI rfl rfl rfl) (Zac (ZaF rfl (fun h12 => ?_) (fun h12 => ?_)))))))))
  · have hk1 : k < S.length := ZaN h12;refine Zap (Zad (Zam ?_));have hal : acc.length ≤ 1000 := by rw [hA,List.length_map,List.length_take]; omega
    refine Zab (goMv rfl rfl (goMv rfl rfl (goMv rfl rfl (Zaa.go (Zat (k) rfl rfl (rfl) (getm hk1) Tryz.underlying23 rfl sz64 rfl) (Zaa.go (ZaJ rfl fi64_0 rfl rfl rfl) (Zaa.go (ZaE rfl rfl on3 rfl) ?_))))));refine Zaj.go (ZaD 2 sl28 rfl rfl rfl rfl rfl rfl rfl rfl) (Zaj.go (Zbc (acc) ([S[k].id]) rfl rfl rfl rfl rfl rfl rfl rfl sl28 (by simp only [List.length_singleton]; omega) rfl rfl rfl rfl) (goAs rfl rfl (Zac (Zab (goMv rfl rfl (Zaa.go (Zay rfl rfl (wrapS (k + 1) (by omega)) rfl) (goAs rfl rfl (Zac ?_))))))));exact ⟨(k + 1,_),⟨by show k + 1 ≤ _; omega,by show _ = (S.take (k + 1)).map Itm.id; rw [tk_map hk1,hA]⟩,by show S.length - (k + 1) < S.length - k; omega,Zaq hF [900] rfl (rfl) ⟨rfl,rfl,rfl,trivial⟩⟩
  · refine ZaL (Zad (ZbH (emb := intD) 4 900 acc rfl rfl rfl rfl rfl rfl rfl (Zab (goMv rfl rfl (goAs rfl rfl (Zac (Zao ?_)))))));exact ⟨_,[],[],Zak rfl,rfl,rfl,by rw [hA,List.take_of_length_le (by have h := h12; omega)],rfl⟩
def without (l : List Int) (x : Int) : List Int := l.filter fun y => decide (y ≠ x)
theorem without_p (l : List Int) (x : Int) (hl : l.length ≤ 1000) : PCalls Tryz.prog 47 [.d (.sl none (l.map intD)), .d (intD x)] (.sl none ((without l x).map intD)) := by
  refine ZaB Tryz.func47 rfl rfl Tryz.ntmps47 rfl rfl rfl fun F hF => (Zad (Zab (goAs rfl rfl (Zac (Zad (Zab (goAs rfl rfl ?_)))))));refine Zac (Zad (Zad (a_adopt 5 900 sl28 rfl rfl rfl rfl (Zab (goAs rfl rfl (Zac (Zam (ZaK (α := Nat × List Int) (fun q => ⟨27,[(0, .d (.sl none (l.map intD))),(1, .d (intD x)),(5,(.own 900 0 q.2.length)),(6,(.d (intD (q.1 : Int))))],[(900,[.rowD 3 1 (q.2.map intD)])]⟩) (fun q => q.1 ≤ l.length ∧ q.2 = without (l.take q.1) x) (fun q => l.length - q.1) ((0,[])) (⟨Nat.zero_le _,rfl⟩) (Zaq hF [900] rfl rfl ⟨rfl,rfl,rfl,rfl,trivial⟩) ?_))))))));rintro ⟨k,acc⟩ ⟨hk0,hA⟩;dsimp only at hk0 hA ⊢;refine Zad (Zad (Zab (goMv rfl rfl (goMv rfl rfl (Zaa.go (ZaA rfl Tryz.underlying28 rfl) (Zaa.go (ZaI rfl rfl rfl) (Zac (ZaF rfl (fun h10 => ?_) (fun h10 => ?_)))))))))
  · have hk1 : k < l.length := ZaN h10;refine Zap (Zad (Zam (Zad ?_)));have hal : acc.length ≤ 1000 := by rw [hA]; unfold without; have := List.length_filter_le (fun y => decide (y ≠ x)) (l.take k); rw [List.length_take] at this; omega
    refine Zab (goMv rfl rfl (goMv rfl rfl (Zaa.go (Zat (k) rfl rfl (rfl) (getm hk1) Tryz.underlying28 rfl sz3 rfl) (Zaa.go (ZaE rfl rfl on3 rfl) (goMv rfl rfl (Zaa.go (Zbi rfl rfl rfl) (Zac (ZaF rfl (fun h18 => ?_) (fun h18 => ?_)))))))))
    · refine Zab (goMv rfl rfl (goMv rfl rfl (goMv rfl rfl (Zaa.go (Zat (k) rfl rfl (rfl) (getm hk1) Tryz.underlying28 rfl sz3 rfl) (Zaa.go (ZaE rfl rfl on3 rfl) ?_)))));refine Zaj.go (ZaD 1 sl28 rfl rfl rfl rfl rfl rfl rfl rfl) (Zaj.go (Zbc (acc) ([l[k]]) rfl rfl rfl rfl rfl rfl rfl rfl sl28 (by simp only [List.length_singleton]; omega) rfl rfl rfl rfl) (goAs rfl rfl (Zac (Zab (goMv rfl rfl (Zaa.go (Zay rfl rfl (wrapS (k + 1) (by omega)) rfl) (goAs rfl rfl (Zac ?_))))))));exact ⟨(k + 1,_),⟨by show k + 1 ≤ _; omega,by show _ = without (l.take (k + 1)) x; unfold without; rw [flt_snoc hk1,if_pos (by simpa using h18),hA]; rfl⟩,by show l.length - (k + 1) < l.length - k; omega,Zaq hF [900] rfl (rfl) ⟨rfl,rfl,rfl,rfl,trivial⟩⟩
    · refine Zap (Zab (goMv rfl rfl (Zaa.go (Zay rfl rfl (wrapS (k + 1) (by omega)) rfl) (goAs rfl rfl (Zac ?_)))));exact ⟨(k + 1,_),⟨by show k + 1 ≤ _; omega,by show _ = without (l.take (k + 1)) x; unfold without; rw [flt_snoc hk1,if_neg (by simpa using h18),List.append_nil,hA]; rfl⟩,by show l.length - (k + 1) < l.length - k; omega,Zaq hF [900] rfl (rfl) ⟨rfl,rfl,rfl,rfl,trivial⟩⟩
  · refine ZaL (Zad (ZbH (emb := intD) 5 900 acc rfl rfl rfl rfl rfl rfl rfl (Zab (goMv rfl rfl (goAs rfl rfl (Zac (Zao ?_)))))));exact ⟨_,[],[],Zak rfl,rfl,rfl,by rw [hA,List.take_of_length_le (by have h := h10; omega)],rfl⟩
def overL (its : List Itm) (x : Roo) (l : List Int) : Int := max x.n 0 + ((its.filter fun i => decide (i.id ∈ l)).map fun i => dltE i x.r).sum
theorem overL_snoc {its : List Itm} {k : Nat} (hk : k < its.length) (x : Roo) (l : List Int) : overL (its.take (k + 1)) x l = overL (its.take k) x l + if its[k].id ∈ l then dltE its[k] x.r else 0 := by
  unfold overL;rw [flt_snoc hk]
  by_cases h : its[k].id ∈ l
  · rw [if_pos (by simpa using h),if_pos h,List.map_append,List.sum_append]; simp; omega
  · rw [if_neg (by simpa using h),if_neg h,List.append_nil]; omega
theorem dltE_bnd (i : Itm) (r : Rsc) : -1000000000000000 ≤ dltE i r ∧ dltE i r ≤ 1000000000000000 := by
  unfold dltE
  split
  · rename_i h
    have := bnd_sum h.1 r
    simpa [Mx] using this
  · omega
theorem overL_bnd (its : List Itm) (x : Roo) (l : List Int) : max x.n 0 - its.length * 1000000000000000 ≤ overL its x l ∧ overL its x l ≤ max x.n 0 + its.length * 1000000000000000 := by
  unfold overL
  induction its with
  | nil => simp
  | cons i its ih =>
    have h1 := dltE_bnd i x.r;rw [List.filter_cons];simp only [List.length_cons]
    split
    · simp only [List.map_cons,List.sum_cons]; omega
    · omega
theorem over_n (p : Prb) (x : Roo) (l : List Int) (hp : p.it.length ≤ 30) (hx : -100000000000000000 ≤ x.n ∧ x.n ≤ 100000000000000000) (hl : l.length ≤ 1000) (hi : ∀ i ∈ p.it,FewI i) : PCalls Tryz.prog 34 [.d (prbD p), .d (rooD x), .d (.sl none (l.map intD))] (intD (max 0 (-(overL p.it x l)))) := by
  have hmx : (if 0 > x.n then 0 else x.n) = max x.n 0 := by rw [Int.max_def]; split <;> split <;> omega
  refine ZaB Tryz.func34 rfl rfl Tryz.ntmps34 rfl rfl rfl fun F hF => (Zad (Zab (Zaj.go (ZaS 1 rfl rfl rfl rfl rfl rfl rfl) (Zaj.go (ZaS 2 rfl rfl rfl rfl rfl rfl rfl) (goAs rfl rfl (Zac ?_))))));refine Zad (Zab (Zaa.go (Zag rfl fi67_1 rfl rfl rfl) (Zaa.go (Zah rfl rfl rfl on2 rfl) (Zaa.go (st_max rfl rfl (rfl) rfl) (goAs rfl rfl (Zac (Zad (Zad ?_))))))));have h00 : max x.n 0 = overL (p.it.take 0) x l := by unfold overL; simp
  rw [hmx,h00];refine Zab (goAs rfl rfl (Zac (Zam (ZaK (α := Nat) (fun k => ⟨40,[(2, .d (.sl none (l.map intD))),(3,(.ptr 1 0 0)),(4,(.ptr 2 0 0)),(7,(.d (intD (overL (p.it.take k) x l)))),(8,(.d (intD (k : Int))))],[(1,[.blk 25 [.d (.sl none (p.ro.map rooD)), .d (.sl none (p.it.map itmD))]]),(2,[.blk 67 [.d (intD x.r.k), .d (strD x.r.acc.o), .d (intD x.r.acc.k), .d (strD x.r.acc.a), .d (strD x.r.f), .d (strD x.r.t), .d (intD x.n)]])]⟩) (fun k => k ≤ p.it.length) (fun k => p.it.length - k) (0) (Nat.zero_le _) (Zaq hF [1,2] rfl rfl ⟨rfl,rfl,rfl,rfl,rfl,trivial⟩) ?_))));rintro k hk0;refine Zad ?_;refine Zad (Zab (goMv rfl rfl (Zaa.go (Zag rfl Za3 rfl rfl rfl) (Zaa.go (Zah rfl rfl rfl on23 rfl) (Zaa.go (ZaA rfl Tryz.underlying23 rfl) (Zaa.go (ZaI rfl rfl rfl) (Zac (ZaF rfl (fun h16 => ?_) (fun h16 => ?_)))))))))
  · have hk1 : k < p.it.length := ZaN h16;refine Zap (Zad (Zam (Zad ?_)));have hfi := hi _ (List.getElem_mem hk1);have hsn := overL_snoc hk1 x l;have hob := overL_bnd (p.it.take k) x l;rw [List.length_take] at hob;have hdb := dltE_bnd p.it[k] x.r;refine Zab (goMv rfl rfl ?_);refine Zaa.go (Zag rfl Za3 rfl rfl rfl) (Zaa.go (Zah rfl rfl rfl on23 rfl) (goMv rfl rfl (Zaa.go (Zat (k) rfl rfl (rfl) (getm hk1) Tryz.underlying23 rfl sz64 rfl) (Zaa.go (ZaJ rfl fi64_0 rfl rfl rfl) (Zaa.go (ZaE rfl rfl on3 rfl) (Zaa.go (Zau (has30_p l p.it[k].id (by omega)) rfl rfl) (Zac (ZaF rfl (fun h26 => ?_) (fun h26 => ?_)))))))))
    · refine ZaT [[],[],[1],[],[1,2,3],[1,2,3,4],[],[6],[1,2,3,4,5,6,7],[0,1,2,3,4,5,6,7,8],[0,1,2,3,4,5,6,7,8,9]] mixed rfl (dws (Zaf [7] [] rfl rfl (fun _ => Zae (Zar rfl rfl)) (Zaf [3] [] rfl rfl (fun _ => Zae (Zag rfl Za3 rfl rfl rfl)) (Zaf [28] [1] rfl rfl (fun _ => Zae (Zah rfl rfl rfl on23 rfl)) (Zaf [8] [] rfl rfl (fun _ => Zae (Zar rfl rfl)) ?_)))));refine Zaf [29,30] [] rfl rfl (fun _ => Zae (Zat (k) rfl rfl (rfl) (getm hk1) Tryz.underlying23 rfl sz64 rfl)) (Zaf [31] [] rfl rfl (fun _ => Zae (ZaC rfl rfl rw64 rfl)) (Zaf [4] [] rfl rfl (fun _ => Zae (Zag rfl Zbo rfl rfl rfl)) (Zaf [33] [2] rfl rfl (fun _ => Zae (Zas rfl rfl rw56 rfl rfl rfl)) (Zaf [32,34] [] rfl rfl (fun _ => Zae (Zau (refdelta_p p.it[k] x.r (by have h := hfi.1; omega) (by have h := hfi.2.1; omega) (by have h := hfi.2.2; omega)) rfl rfl)) (dwc 9 rfl rfl rfl (dw1 10 rfl rfl (Zaa.go (Zay rfl rfl (IntWalk.i64_in _ (by omega)) rfl) (Zac ⟨rfl, ?_⟩))))))));refine dw1 11 rfl rfl (goAs rfl rfl (Zac ⟨rfl, ?_⟩));refine dwe ?_
      first | rw [if_pos (by simpa using h26)] at hsn | rw [if_neg (by simpa using h26),Int.add_zero] at hsn
      rw [← hsn];refine Zab (goMv rfl rfl (Zaa.go (Zay rfl rfl (wrapS (k + 1) (by omega)) rfl) (goAs rfl rfl (Zac ?_))));exact ⟨k + 1,(by show k + 1 ≤ _; omega),by show p.it.length - (k + 1) < p.it.length - k; omega,Zaq hF [1,2] rfl (rfl) ⟨rfl,rfl,rfl,rfl,rfl,trivial⟩⟩
    · refine Zap ?_
      first | rw [if_pos (by simpa using h26)] at hsn | rw [if_neg (by simpa using h26),Int.add_zero] at hsn
      rw [← hsn];refine Zab (goMv rfl rfl (Zaa.go (Zay rfl rfl (wrapS (k + 1) (by omega)) rfl) (goAs rfl rfl (Zac ?_))));exact ⟨k + 1,(by show k + 1 ≤ _; omega),by show p.it.length - (k + 1) < p.it.length - k; omega,Zaq hF [1,2] rfl (rfl) ⟨rfl,rfl,rfl,rfl,rfl,trivial⟩⟩
  · refine ZaL (Zad ?_);have hob := overL_bnd p.it x l;rw [List.take_of_length_le (by have h := h16; omega)];refine Zab (goMv rfl rfl (Zaa.go (st_neg rfl (IntWalk.i64_in _ (by omega)) rfl) (Zaa.go (st_max rfl rfl (rfl) rfl) (goAs rfl rfl (Zac (Zao ?_))))));exact ⟨_,[],[],Zak rfl,rfl,rfl,by rw [show (max 0 (-(overL p.it x l)) : Int) = if 0 - overL p.it x l > 0 then 0 - overL p.it x l else 0 by rw [Int.max_def]; split <;> split <;> omega],rfl⟩
theorem over_p (p : Prb) (x : Roo) (l : List Int) (hp : p.it.length ≤ 30) (hx : -4000000000000000 ≤ x.n ∧ x.n ≤ 4000000000000000) (hl : l.length ≤ 1000) (hi : ∀ i ∈ p.it,FewI i) : PCalls Tryz.prog 34 [.d (prbD p), .d (rooD x), .d (.sl none (l.map intD))] (intD (max 0 (-(overL p.it x l)))) := over_n p x l hp (by omega) hl hi
abbrev excRD (o : Option Exc) : D := .tup [excD (o.getD exc0),boolD o.isSome]
abbrev excX (e : Exc) : AObj := .blk 58 [.d (intD e.id), .d (intD e.re), .d (intD e.r.k), .d (strD e.r.acc.o), .d (intD e.r.acc.k), .d (strD e.r.acc.a), .d (strD e.r.f), .d (strD e.r.t), .d (intD e.by_)]
def blkR (its : List Itm) (l : List Int) (id : Int) (x : Roo) : Option Exc := if id ∈ qIds its x.r then (((qIds its x.r).takeWhile fun a => decide (a ≠ id)).find? fun a => decide (a ∉ l)).map fun a => ⟨id,1,x.r,a⟩ else none
def blockR (p : Prb) (l : List Int) (id : Int) : Option Exc := match (rosS p).findSome? (blkR (sortO p.it) l id) with
  | some e => some e
  | none => ((itmOf p id).af.find? fun a => decide (a ∉ l)).map fun a => ⟨id,2,rscZ,a⟩
theorem tw_take {α : Type} {p : α → Bool} : ∀ {l : List α} {m : Nat} (hm : m < l.length),(∀ a ∈ l.take m,p a = true) → p l[m] = false → l.takeWhile p = l.take m
  | a :: l,0,_,_,h => by simp at h; simp [h]
  | a :: l,m + 1,hm,h0,h => by
    have h1 : p a = true := h0 a (by simp);have ih := tw_take (l := l) (m := m) (by simpa using hm) (fun x hx => h0 x (by simp [hx])) (by simpa using h);rw [List.takeWhile_cons,h1,List.take_succ_cons, ← ih]; rfl
theorem tw_find {α : Type} {p q : α → Bool} : ∀ {l : List α} {m : Nat} (hm : m < l.length),(∀ a ∈ l.take m,p a = true ∧ q a = false) → p l[m] = true → q l[m] = true → (l.takeWhile p).find? q = some l[m]
  | a :: l,0,_,_,h1,h2 => by simp at h1 h2; simp [h1,h2]
  | a :: l,m + 1,hm,h0,h1,h2 => by
    have h3 := h0 a (by simp);have ih := tw_find (l := l) (m := m) (by simpa using hm) (fun x hx => h0 x (by simp [hx])) (by simpa using h1) (by simpa using h2);rw [List.takeWhile_cons,h3.1];simp only [if_true,List.find?_cons,h3.2]
    simpa using ih
theorem blk_none {S : List Itm} {l : List Int} {id : Int} {x : Roo} {Q : List Int} (hQ : qIds S x.r = Q) (hidQ : id ∈ Q) {m : Nat} (hm : m < Q.length) (h0 : ∀ a ∈ Q.take m,a ≠ id ∧ a ∈ l) (h1 : Q[m] = id) : blkR S l id x = none := by
  unfold blkR;rw [hQ,if_pos hidQ,tw_take hm (fun a ha => by simpa using (h0 a ha).1) (by simpa using h1),Zcd (fun a ha => by simpa using (h0 a ha).2)]; rfl
theorem blk_some {S : List Itm} {l : List Int} {id : Int} {x : Roo} {Q : List Int} (hQ : qIds S x.r = Q) (hidQ : id ∈ Q) {m : Nat} (hm : m < Q.length) (h0 : ∀ a ∈ Q.take m,a ≠ id ∧ a ∈ l) (h1 : Q[m] ≠ id) (h2 : Q[m] ∉ l) : blkR S l id x = some ⟨id,1,x.r,Q[m]⟩ := by
  unfold blkR;rw [hQ,if_pos hidQ,tw_find hm (fun a ha => ⟨by simpa using (h0 a ha).1,by simpa using (h0 a ha).2⟩) (by simpa using h1) (by simpa using h2)]; rfl
theorem blk_lt {Q : List Int} {id : Int} (hidQ : id ∈ Q) {m : Nat} (hm : m < Q.length) (h0 : ∀ a ∈ Q.take m,a ≠ id) (h1 : Q[m] ≠ id) : m + 1 < Q.length := by
  rcases Nat.lt_or_ge (m + 1) Q.length with h | h
  · exact h
  · exfalso
    have e : Q.take (m + 1) = Q := List.take_of_length_le h;rw [← e,List.take_succ_eq_append_getElem hm] at hidQ;rcases List.mem_append.1 hidQ with h2 | h2
    · exact h0 _ h2 rfl
    · exact h1 (List.mem_singleton.1 h2).symm
set_option maxHeartbeats 1000000 in
theorem blocked_n (p : Prb) (hf : FewP p) (hE : (p.ro.map Roo.r).Nodup) (l : List Int) (id : Int) (hl : l.length ≤ 1000) (hid : id ∈ p.it.map Itm.id) : PCalls Tryz.prog 42 [.d (prbD p), .d (.sl none (l.map intD)), .d (intD id)] (excRD (blockR p l id)) := by
  have hrm := rooms30_n p hE (by have := hf.r; omega);have hbr : ∀ e,(rosS p).findSome? (blkR (sortO p.it) l id) = some e → blockR p l id = some e := fun e h => by unfold blockR; rw [h]
  have hbn : (rosS p).findSome? (blkR (sortO p.it) l id) = none → blockR p l id = ((itmOf p id).af.find? fun a => decide (a ∉ l)).map fun a => ⟨id,2,rscZ,a⟩ := fun h => by unfold blockR; rw [h]
  have hrl : (rosS p).length ≤ 100 := by rw [(rosS_perm p).length_eq]; exact hf.r
  have hil := hf.i;have hqf := fun (r : Rsc) => refqueue_p p r (by omega) (fun i hi => by have h := hf.x i ((Zbe p.it).mem_iff.1 hi); omega);have hql : ∀ r,(qIds (sortO p.it) r).length ≤ 30 := fun r => by unfold qIds; rw [List.length_map]; have := List.length_filter_le (fun i => decide (dltE i r < 0)) (sortO p.it); rw [ZbP] at this; omega
  obtain ⟨hfk,hfi,hfe,_⟩ := itmOf_at hid;have hfd := find_p p id (by omega);rw [hfi] at hfd;have hai := hf.x (itmOf p id) (by rw [hfe]; exact List.getElem_mem hfk)
  obtain ⟨ros,hros⟩ : ∃ ros,rosS p = ros := ⟨_,rfl⟩
  obtain ⟨S,hS⟩ : ∃ S,sortO p.it = S := ⟨_,rfl⟩
  rw [hros] at hrm hbr hbn hrl;rw [hS] at hbr hbn hqf hql;refine ZaB Tryz.func42 rfl rfl Tryz.ntmps42 rfl rfl rfl fun F hF => (Zad ?_);refine Zab (Zaj.go (ZaS 1 rfl rfl rfl rfl rfl rfl rfl) (Zaj.go (ZaQ 2 zl58 rfl rfl rfl rfl) (goAs rfl rfl (Zac (Zad (Zab (Zaa.go (Zas rfl rfl rw25 rfl rfl rfl) (Zaa.go (Zau (hrm) rfl rfl) ?_))))))));refine goAs rfl rfl (Zac (Zad (Zad (Zab (goAs rfl rfl (Zac (Zam (ZaK (α := Nat) (fun k => ⟨89,[(1, .d (.sl none (l.map intD))),(2, .d (intD id)),(3,(.ptr 1 0 0)),(6,(.ptr 2 0 0)),(8,(.d (.sl none (ros.map rooD)))),(9,(.d (intD (k : Int))))],[(1,[prbB2 25 p]),(2,[excX exc0])]⟩) (fun k => k ≤ ros.length ∧ ∀ x ∈ ros.take k,blkR S l id x = none) (fun k => ros.length - k) (0) (⟨Nat.zero_le _,by simp⟩) (Zaq hF [1,2] rfl rfl ⟨rfl,rfl,rfl,rfl,rfl,rfl,trivial⟩) ?_))))))));rintro k ⟨hk0,hkb⟩;refine Zad (Zad (Zab (goMv rfl rfl (goMv rfl rfl (Zaa.go (ZaA rfl Tryz.underlying22 rfl) (Zaa.go (ZaI rfl rfl rfl) (Zac (ZaF rfl (fun h19 => ?_) (fun h19 => ?_)))))))))
  · have hk1 : k < ros.length := ZaN h19;refine Zap (Zad (Zam (Zad ?_)))
    obtain ⟨Q,hQ⟩ : ∃ Q,qIds S ros[k].r = Q := ⟨_,rfl⟩
    have hqk := hqf ros[k].r;have hqlk := hql ros[k].r;rw [hQ] at hqk hqlk;refine ZaT [[],[],[],[1,2],[1,2,3],[1,2,3,4],[0,1,2,3,4,5],[0,1,2,3,4,5,6]] mixed rfl (dws (Zaf [3] [1] rfl rfl (fun _ => Zae (Zas rfl rfl rw25 rfl rfl rfl)) ?_));refine Zaf [8] [] rfl rfl (fun _ => Zae (Zar rfl rfl)) (Zaf [9] [] rfl rfl (fun _ => Zae (Zar rfl rfl)) (Zaf [23,24] [] rfl rfl (fun _ => Zae (Zat (k) rfl rfl (rfl) (getm hk1) Tryz.underlying22 rfl sz67 rfl)) (Zaf [25] [] rfl rfl (fun _ => Zae (ZaM rfl Zbo rfl rfl rfl)) (Zaf [26] [] rfl rfl (fun _ => Zae (ZaC rfl rfl rw56 rfl)) (dwc 6 rfl rfl rfl (dw1 7 rfl rfl (Zaa.go (Zau (hqk) rfl rfl) (Zac ⟨rfl, ?_⟩))))))));refine dw1 8 rfl rfl (goAs rfl rfl (Zac ⟨rfl, ?_⟩));refine dwe ?_;refine Zad (Zad (Zab (goMv rfl rfl (goMv rfl rfl (Zaa.go (Zau (has30_p Q id (by omega)) rfl rfl) (Zaa.go (Zbq rfl rfl) (Zac (ZaF rfl (fun h32 => ?_) (fun h32 => ?_)))))))))
    · refine ZaL (Zab (goMv rfl rfl (Zaa.go (Zay rfl rfl (wrapS (k + 1) (by omega)) rfl) (goAs rfl rfl (Zac ?_)))));exact ⟨k + 1,⟨by show k + 1 ≤ _; omega,by rw [List.take_succ_eq_append_getElem hk1]; intro e he; rcases List.mem_append.1 he with he | he; exact hkb e he; rw [List.mem_singleton.1 he]; unfold blkR; rw [hQ,if_neg (by simpa using h32)]⟩,by show ros.length - (k + 1) < ros.length - k; omega,Zaq hF [1,2] rfl (rfl) ⟨rfl,rfl,rfl,rfl,rfl,rfl,trivial⟩⟩
    · refine Zap (Zad ?_);have hidQ : id ∈ Q := by simpa using h32
      refine Zab (goAs rfl rfl (Zac (Zam (ZaK (α := Nat) (fun m => ⟨89,[(1, .d (.sl none (l.map intD))),(2, .d (intD id)),(3,(.ptr 1 0 0)),(6,(.ptr 2 0 0)),(8,(.d (.sl none (ros.map rooD)))),(9,(.d (intD (k : Int)))),(10,(.d (.sl none (Q.map intD)))),(11,(.d (intD (m : Int))))],[(1,[prbB2 25 p]),(2,[excX exc0])]⟩) (fun m => m < Q.length ∧ ∀ a ∈ Q.take m,a ≠ id ∧ a ∈ l) (fun m => Q.length - m) (0) (⟨List.length_pos_of_mem hidQ,by simp⟩) (Zaq hF [1,2] rfl rfl ⟨rfl,rfl,rfl,rfl,rfl,rfl,rfl,rfl,trivial⟩) ?_))));rintro m ⟨hm1,hma⟩;refine Zad (Zad ?_);refine Zab (goMv rfl rfl (goMv rfl rfl (Zaa.go (Zat (m) rfl rfl (rfl) (getm hm1) Tryz.underlying28 rfl sz3 rfl) (Zaa.go (ZaE rfl rfl on3 rfl) (goMv rfl rfl (Zaa.go (Zbi rfl rfl rfl) (Zac (ZaF rfl (fun h38 => ?_) (fun h38 => ?_)))))))))
      · refine Zap (Zad (Zam (Zad (Zab ?_))));refine goMv rfl rfl (goMv rfl rfl (goMv rfl rfl (Zaa.go (Zat (m) rfl rfl (rfl) (getm hm1) Tryz.underlying28 rfl sz3 rfl) (Zaa.go (ZaE rfl rfl on3 rfl) (Zaa.go (Zau (has30_p l Q[m] (by omega)) rfl rfl) (Zaa.go (Zbq rfl rfl) (Zac (ZaF rfl (fun h47 => ?_) (fun h47 => ?_)))))))))
        · refine Zad (ZaT [[],[],[],[1,2],[1,2,3],[1,2,3,4],[],[],[6,7],[6,7,8],[0,1,2,3,4,5,6,7,8,9],[0,1,2,3,4,5,6,7,8,9,10],[0,1,2,3,4,5,6,7,8,9,10,11]] mixed rfl (dws (Zaf [2] [] rfl rfl (fun _ => Zae (Zar rfl rfl)) (Zaf [8] [] rfl rfl (fun _ => Zae (Zar rfl rfl)) (Zaf [9] [] rfl rfl (fun _ => Zae (Zar rfl rfl)) (Zaf [49,50] [] rfl rfl (fun _ => Zae (Zat (k) rfl rfl (rfl) (getm hk1) Tryz.underlying22 rfl sz67 rfl)) (Zaf [51] [] rfl rfl (fun _ => Zae (ZaM rfl Zbo rfl rfl rfl)) ?_)))))));refine Zaf [52] [] rfl rfl (fun _ => Zae (ZaC rfl rfl rw56 rfl)) (Zaf [10] [] rfl rfl (fun _ => Zae (Zar rfl rfl)) (Zaf [11] [] rfl rfl (fun _ => Zae (Zar rfl rfl)) (Zaf [54,55] [] rfl rfl (fun _ => Zae (Zat (m) rfl rfl (rfl) (getm hm1) Tryz.underlying28 rfl sz3 rfl)) (Zaf [56] [] rfl rfl (fun _ => Zae (ZaE rfl rfl on3 rfl)) (dwc 10 rfl rfl rfl (dw1 11 rfl rfl (Zaa.go (Za0 zl58 pl58 rfl rfl rfl) (Zac ⟨rfl, ?_⟩))))))));refine dw1 12 rfl rfl (Zaj.go (Zaz rfl rfl rfl rfl rfl rfl rfl sz58) (Zac ⟨rfl, ?_⟩));refine dw1 13 rfl rfl (goAs rfl rfl (Zac ⟨rfl, ?_⟩));refine dwe (Zao ?_);exact ⟨_,[],[],Zak rfl,rfl,rfl,by rw [hbr _ (findSome_at hk1 hkb (blk_some hQ hidQ hm1 hma (by simpa using h38) (by simpa using h47)))]; rfl,rfl⟩
        · refine Zap (Zab (goMv rfl rfl (Zaa.go (Zay rfl rfl (wrapS (m + 1) (by omega)) rfl) (goAs rfl rfl (Zac ?_)))));exact ⟨m + 1,⟨blk_lt hidQ hm1 (fun a ha => (hma a ha).1) (by simpa using h38),by rw [List.take_succ_eq_append_getElem hm1]; intro e he; rcases List.mem_append.1 he with he | he; exact hma e he; rw [List.mem_singleton.1 he]; exact ⟨by simpa using h38,by simpa using h47⟩⟩,by show Q.length - (m + 1) < Q.length - m; omega,Zaq hF [1,2] rfl (rfl) ⟨rfl,rfl,rfl,rfl,rfl,rfl,rfl,rfl,trivial⟩⟩
      · refine ZaL (Zab (goMv rfl rfl (Zaa.go (Zay rfl rfl (wrapS (k + 1) (by omega)) rfl) (goAs rfl rfl (Zac ?_)))));exact ⟨k + 1,⟨by show k + 1 ≤ _; omega,by rw [List.take_succ_eq_append_getElem hk1]; intro e he; rcases List.mem_append.1 he with he | he; exact hkb e he; rw [List.mem_singleton.1 he]; exact blk_none hQ hidQ hm1 hma (by simpa using h38)⟩,by show ros.length - (k + 1) < ros.length - k; omega,Zaq hF [1,2] rfl (rfl) ⟨rfl,rfl,rfl,rfl,rfl,rfl,trivial⟩⟩
  · refine ZaL (Zad ?_);have hrn := hbn (findSome_no (by have e : k = ros.length := (by have h := h19; omega); rw [e,List.take_length] at hkb; exact hkb));have hgm : (p.it.map itmD)[List.idxOf id (p.it.map Itm.id)]? = some (itmD (itmOf p id)) := by rw [getm hfk,hfe]
    obtain ⟨X,hX⟩ : ∃ X,itmOf p id = X := ⟨_,rfl⟩
    rw [hX] at hgm hrn hai;refine ZaT [[],[0],[],[],[2,3],[0,1,2,3,4],[0,1,2,3,4,5],[],[0,1,2,3,4,5,6,7]] mixed rfl (dws (Zaf [3] [] rfl rfl (fun _ => Zae (Zag rfl Za3 rfl rfl rfl)) (Zaf [59] [1] rfl rfl (fun _ => Zae (Zah rfl rfl rfl on23 rfl)) (Zaf [3] [1] rfl rfl (fun _ => Zae (Zas rfl rfl rw25 rfl rfl rfl)) ?_))));refine Zaf [2] [] rfl rfl (fun _ => Zae (Zar rfl rfl)) (Zaf [61,62] [] rfl rfl (fun _ => Zae (Zau (hfd) rfl rfl)) (Zaf [60,63] [] rfl rfl (fun _ => Zae (Zat (List.idxOf id (p.it.map Itm.id)) rfl rfl (rfl) (hgm) Tryz.underlying23 rfl sz64 rfl)) (Zaf [64] [] rfl rfl (fun _ => Zae (ZaC rfl rfl rw64 rfl)) (Zbf [] [3] [(12,_)] rfl rfl (fun _ => Za5 (ZaQ 3 zl64 rfl rfl rfl rfl)) (.inr ⟨12,_,rfl,rfl,rfl,rfl,rfl⟩) rfl rfl rfl rfl rfl (dwc 8 rfl rfl rfl (dw1 9 rfl rfl (Zaj.go (Zaz rfl rfl rfl rfl rfl rfl rfl sz64) (Zac ⟨rfl, ?_⟩))))))));refine dwe (Zad (Zad (Zab (goAs rfl rfl (Zac (Zam (ZaK (α := Nat) (fun j => ⟨89,[(1, .d (.sl none (l.map intD))),(2, .d (intD id)),(6,(.ptr 2 0 0)),(12,(.ptr 3 0 0)),(13,(.d (intD (j : Int))))],[(2,[excX exc0]),(3,[.blk 64 [.d (intD X.id), .d (intD X.pr), .d (intD X.sq), .d (.sl none (X.po.map postD)), .d (.sl none (X.pa.map payD)), .d (.sl none (X.af.map intD))]])]⟩) (fun j => j ≤ X.af.length ∧ ∀ a ∈ X.af.take j,a ∈ l) (fun j => X.af.length - j) (0) (⟨Nat.zero_le _,by simp⟩) (Zaq hF [2,3] rfl rfl ⟨rfl,rfl,rfl,rfl,rfl,trivial⟩) ?_)))))));rintro j ⟨hj0,hja⟩;refine Zad ?_;refine Zad (Zab (goMv rfl rfl (Zaa.go (Zag rfl ZbG rfl rfl rfl) (Zaa.go (Zah rfl rfl rfl on28 rfl) (Zaa.go (ZaA rfl Tryz.underlying28 rfl) (Zaa.go (ZaI rfl rfl rfl) (Zac (ZaF rfl (fun h70 => ?_) (fun h70 => ?_)))))))))
    · have hj1 : j < X.af.length := ZaN h70;refine Zap (Zad (Zam (Zad (Zab (goMv rfl rfl ?_)))));refine Zaa.go (Zag rfl ZbG rfl rfl rfl) (Zaa.go (Zah rfl rfl rfl on28 rfl) (goMv rfl rfl (Zaa.go (Zat (j) rfl rfl (rfl) (getm hj1) Tryz.underlying28 rfl sz3 rfl) (Zaa.go (ZaE rfl rfl on3 rfl) (Zaa.go (Zau (has30_p l X.af[j] (by omega)) rfl rfl) (Zaa.go (Zbq rfl rfl) (Zac (ZaF rfl (fun h80 => ?_) (fun h80 => ?_)))))))))
      · refine Zad (Zab (goMv rfl rfl (Zaa.go (Zag rfl ZbG rfl rfl rfl) ?_)));refine Zaa.go (Zah rfl rfl rfl on28 rfl) (goMv rfl rfl (Zaa.go (Zat (j) rfl rfl (rfl) (getm hj1) Tryz.underlying28 rfl sz3 rfl) (Zaa.go (ZaE rfl rfl on3 rfl) (Zaa.go (Za0 zl58 pl58 rfl rfl rfl) (Zaj.go (Zaz rfl rfl rfl rfl rfl rfl rfl sz58) (goAs rfl rfl (Zac (Zao ?_))))))));exact ⟨_,[],[],Zak rfl,rfl,rfl,by rw [hrn,find_at hj1 (fun x hx => by simpa using hja x hx) (by simpa using h80)]; rfl,rfl⟩
      · refine Zap (Zab (goMv rfl rfl (Zaa.go (Zay rfl rfl (wrapS (j + 1) (by omega)) rfl) (goAs rfl rfl (Zac ?_)))));exact ⟨j + 1,⟨by show j + 1 ≤ _; omega,by rw [List.take_succ_eq_append_getElem hj1]; intro e he; rcases List.mem_append.1 he with he | he; exact hja e he; rw [List.mem_singleton.1 he]; simpa using h80⟩,by show X.af.length - (j + 1) < X.af.length - j; omega,Zaq hF [2,3] rfl (rfl) ⟨rfl,rfl,rfl,rfl,rfl,trivial⟩⟩
    · refine ZaL (Zad (Zab (Zaa.go (Za0 zl58 pl58 rfl rfl rfl) (Zaj.go (Zaz rfl rfl rfl rfl rfl rfl rfl sz58) (goAs rfl rfl (Zac (Zao ?_)))))));exact ⟨_,[],[],Zak rfl,rfl,rfl,by rw [hrn,Zcd (fun x hx => by have e : j = X.af.length := (by have h := h70; omega); rw [e,List.take_length] at hja; simpa using hja x hx)]; rfl,rfl⟩
theorem blocked_p (p : Prb) (hf : FewP p) (hE : prbE p = 0) (l : List Int) (id : Int) (hl : l.length ≤ 1000) (hid : id ∈ p.it.map Itm.id) : PCalls Tryz.prog 42 [.d (prbD p), .d (.sl none (l.map intD)), .d (intD id)] (excRD (blockR p l id)) := blocked_n p hf (roos_nodup hE) l id hl hid
end Go.Proofs.YtneihdahboilnaaGreat
