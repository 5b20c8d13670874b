/- Layer 30: the network while items are removed, in closed form. Plain laws. -/
import Derived.Test.YtneihdahboilnaaGreatMg22
namespace Go.Proofs.YtneihdahboilnaaGreat
open Go.RowKit
set_option maxRecDepth 100000
def sumS (ds : List (List (Rsc × Int))) (on : Nat → Bool) (r : Rsc) : Int := ((List.range ds.length).map fun i => if on i = true then amt (ds.getD i []) r else 0).sum
def miS (on : Nat → Bool) (q : List Nat) : Nat := q.findIdx fun i => !on i
def poS (ds : List (List (Rsc × Int))) (on : Nat → Bool) (x : Roo) : Po := ⟨x.r, x.n, sumS ds on x.r, none, negQ ds x.r, miS on (negQ ds x.r)⟩
def ndS (rs : List Rsc) (its : List Itm) (on : Nat → Bool) (i : Nat) : Nd := { ndK rs ((its.map dltS).take i) (its.getD i itm0) (dltS (its.getD i itm0)) with on := on i }
def netS (ros : List Roo) (its : List Itm) (on : Nat → Bool) : Net := ⟨(List.range its.length).map (ndS (ros.map Roo.r) its on), ros.map (poS (its.map dltS) on), none, none⟩
def setOff (on : Nat → Bool) (i : Nat) : Nat → Bool := fun j => if j = i then false else on j
theorem miS_all (q : List Nat) : miS (fun _ => true) q = q.length := by
  unfold miS;exact List.findIdx_eq_length.2 fun x _ => rfl
theorem sumS_all (ds : List (List (Rsc × Int))) (r : Rsc) : sumS ds (fun _ => true) r = (ds.map fun D => amt D r).sum := by
  unfold sumS
  congr 1
  apply List.ext_getElem (by simp)
  intro i h1 h2;simp only [List.getElem_map, List.getElem_range, if_true];rw [ZaL [] (by simpa using h2)]
theorem netP_S (p : Prb) : netP p = netS (rosS p) (ordP p) fun _ => true := by
  unfold netP netS netK ndsK;dsimp only;rw [List.map_map]
  congr 1
  refine List.map_congr_left fun x _ => ?_;have ht : ((ordP p).map dltS).take (ordP p).length = (ordP p).map dltS := List.take_of_length_le (by simp);show finP (poK _ x) = _;unfold finP poK poS;rw [ht, sumS_all, miS_all]
theorem ext_set {ros : List Roo} {f g : Roo → Po} {j : Nat} (hj : j < ros.length) {y : Po} (hn : (ros.map Roo.r).Nodup) (h1 : y = g ros[j]) (h2 : ∀ x ∈ ros, x.r ≠ ros[j].r → f x = g x) : (ros.map f).set j y = ros.map g := by
  refine List.ext_getElem? fun i => ?_;rw [List.getElem?_set]
  by_cases e : j = i
  · subst e;rw [if_pos rfl, if_pos (by simpa using hj), List.getElem?_map, List.getElem?_eq_getElem hj, h1]; rfl
  · rw [if_neg e, List.getElem?_map, List.getElem?_map]
    cases hi : ros[i]? with
    | none => rfl
    | some z =>
      have hil := List.getElem?_eq_some_iff.1 hi;show some _ = some _
      rw [h2 z (List.mem_of_getElem? hi) fun e2 => e (by
        have h3 : (ros.map Roo.r)[j]'(by simpa using hj) = (ros.map Roo.r)[i]'(by simpa using hil.1) := by
          rw [List.getElem_map, List.getElem_map, hil.2, e2]
        exact (List.getElem_inj hn).1 h3)]
theorem idx_ros {ros : List Roo} {r : Rsc} (hm : r ∈ ros.map Roo.r) : ∃ hj : (ros.map Roo.r).idxOf r < ros.length, ros[(ros.map Roo.r).idxOf r].r = r := by
  have h := List.idxOf_lt_length_of_mem hm;have h1 := List.getElem_idxOf h;rw [List.getElem_map] at h1;exact ⟨by simpa using h, h1⟩
theorem sub_fold {ros : List Roo} (hn : (ros.map Roo.r).Nodup) (f : Roo → Po) : ∀ (D : List (Rsc × Int)), (D.map Prod.fst).Nodup → (efK (ros.map Roo.r) D).foldl subE (ros.map f) = ros.map fun x => { f x with sum := (f x).sum - amt D x.r } := by
  intro D
  induction D using Zcg with
  | h0 =>
    intro _;show ros.map f = _;refine List.map_congr_left fun x _ => ?_;show f x = { f x with sum := (f x).sum - 0 }
    rw [Int.sub_zero]
  | h1 D d ih =>
    intro hD;rw [List.map_append, List.nodup_append] at hD;have hdn : d.1 ∉ D.map Prod.fst := fun h => hD.2.2 _ h _ (List.mem_singleton_self _) rfl;have ih := ih hD.1
    by_cases hm : d.1 ∈ ros.map Roo.r
    · rw [efK_in hm, List.foldl_append, ih];obtain ⟨hj, hr⟩ := idx_ros hm;show subE _ ((ros.map Roo.r).idxOf d.1, d.2) = _;rw [subE_at (y := (fun x => { f x with sum := (f x).sum - amt D x.r }) ros[(ros.map Roo.r).idxOf d.1]) (by rw [List.getElem?_map, List.getElem?_eq_getElem hj]; rfl)];refine ext_set hj hn ?_ fun x hx hne => ?_
      · dsimp only;have h1 : amt (D ++ [d]) ros[(ros.map Roo.r).idxOf d.1].r = d.2 := by rw [hr]; exact mget_snoc_at hdn
        have h2 : amt D ros[(ros.map Roo.r).idxOf d.1].r = 0 := by rw [hr]; exact mget_not hdn
        rw [h1, h2, Int.sub_zero]
      · rw [hr] at hne;have : amt (D ++ [d]) x.r = amt D x.r := mget_snoc hne;rw [this]
    · rw [efK_out hm, ih];refine List.map_congr_left fun x hx => ?_;have : amt (D ++ [d]) x.r = amt D x.r := mget_snoc fun e => hm (e ▸ List.mem_map.2 ⟨x, hx, rfl⟩);rw [this]
theorem min_fold {ros : List Roo} (hn : (ros.map Roo.r).Nodup) (f : Roo → Po) (ds : List (List (Rsc × Int))) : ∀ (D : List (Rsc × Int)), (D.map Prod.fst).Nodup → (plK (ros.map Roo.r) ds D).foldl minE (ros.map f) = ros.map fun x => { f x with mi := if amt D x.r < 0 then min (f x).mi (negQ ds x.r).length else (f x).mi } := by
  intro D
  induction D using Zcg with
  | h0 =>
    intro _;show ros.map f = _;refine List.map_congr_left fun x _ => ?_;have h0 : amt [] x.r = 0 := rfl;rw [h0, if_neg (by omega)]
  | h1 D d ih =>
    intro hD;rw [List.map_append, List.nodup_append] at hD;have hdn : d.1 ∉ D.map Prod.fst := fun h => hD.2.2 _ h _ (List.mem_singleton_self _) rfl;have ih := ih hD.1
    by_cases hm : d.1 ∈ ros.map Roo.r ∧ d.2 < 0
    · rw [plK_in hm.1 hm.2, List.foldl_append, ih];obtain ⟨hj, hr⟩ := idx_ros hm.1;show minE _ ((ros.map Roo.r).idxOf d.1, (negQ ds d.1).length) = _;rw [minE_at (y := (fun x => { f x with mi := if amt D x.r < 0 then min (f x).mi (negQ ds x.r).length else (f x).mi }) ros[(ros.map Roo.r).idxOf d.1]) (by rw [List.getElem?_map, List.getElem?_eq_getElem hj]; rfl)];refine ext_set hj hn ?_ fun x hx hne => ?_
      · dsimp only;have h1 : amt (D ++ [d]) ros[(ros.map Roo.r).idxOf d.1].r = d.2 := by rw [hr]; exact mget_snoc_at hdn
        have h2 : amt D ros[(ros.map Roo.r).idxOf d.1].r = 0 := by rw [hr]; exact mget_not hdn
        rw [h1, h2, if_neg (by omega), if_pos hm.2, hr]
      · rw [hr] at hne;have : amt (D ++ [d]) x.r = amt D x.r := mget_snoc hne;rw [this]
    · rw [plK_out hm, ih];refine List.map_congr_left fun x hx => ?_
      by_cases e : x.r = d.1
      · have hin : d.1 ∈ ros.map Roo.r := e ▸ List.mem_map.2 ⟨x, hx, rfl⟩;have h1 : amt (D ++ [d]) x.r = d.2 := by rw [e]; exact mget_snoc_at hdn
        have h2 : amt D x.r = 0 := by rw [e]; exact mget_not hdn
        rw [h1, h2, if_neg (by omega), if_neg (fun h => hm ⟨hin, h⟩)]
      · have : amt (D ++ [d]) x.r = amt D x.r := mget_snoc e;rw [this]
theorem setOff_ne {on : Nat → Bool} {i j : Nat} (h : j ≠ i) : setOff on i j = on j := if_neg h
theorem setOff_at {on : Nat → Bool} {i : Nat} : setOff on i i = false := if_pos rfl
theorem fidx_app {α : Type} (p : α → Bool) (l m : List α) : (l ++ m).findIdx p = if l.findIdx p < l.length then l.findIdx p else m.findIdx p + l.length := List.findIdx_append
theorem fidx_congr {α : Type} {p q : α → Bool} : ∀ {l : List α}, (∀ x ∈ l, p x = q x) → l.findIdx p = l.findIdx q
  | [], _ => rfl
  | a :: l, h => by
    rw [List.findIdx_cons, List.findIdx_cons, h a (List.mem_cons_self ..), fidx_congr fun x hx => h x (List.mem_cons_of_mem _ hx)]
theorem range_cut {n i : Nat} (h : i < n) : ∃ B : List Nat, List.range n = List.range i ++ i :: B ∧ ∀ j ∈ B, i < j := by
  refine ⟨List.range' (i + 1) (n - i - 1), ?_, fun j hj => ?_⟩
  · rw [List.range_eq_range', List.range_eq_range'];have h1 : n = i + (1 + (n - i - 1)) := by omega
    conv => lhs; rw [h1]
    rw [← List.range'_append_1, Nat.zero_add, Nat.add_comm 1 (n - i - 1), List.range'_succ]
  · rw [List.mem_range'_1] at hj; omega
theorem negQ_cut {ds : List (List (Rsc × Int))} {i : Nat} (h : i < ds.length) (r : Rsc) : ∃ B : List Nat, negQ ds r = negQ (ds.take i) r ++ ((if amt (ds.getD i []) r < 0 then [i] else []) ++ B) ∧ (∀ j ∈ negQ (ds.take i) r, j < i) ∧ ∀ j ∈ B, i < j := by
  obtain ⟨B, h1, h2⟩ := range_cut h;refine ⟨B.filter fun i => decide (amt (ds.getD i []) r < 0), ?_, fun j hj => ?_, fun j hj => h2 j (List.mem_filter.1 hj).1⟩
  · unfold negQ;rw [h1, List.filter_append, List.filter_cons, show (ds.take i).length = i by rw [List.length_take]; omega]
    congr 1
    · refine List.filter_congr fun j hj => ?_;have hj' := List.mem_range.1 hj;rw [List.getD_eq_getElem?_getD, List.getD_eq_getElem?_getD, List.getElem?_take_of_lt hj']
    · by_cases h0 : amt (ds.getD i []) r < 0
      · rw [if_pos (decide_eq_true h0), if_pos h0]; rfl
      · rw [if_neg (by simpa using h0), if_neg h0]; rfl
  · unfold negQ at hj;have := List.mem_range.1 (List.mem_filter.1 hj).1;rw [List.length_take] at this; omega
theorem miS_off {ds : List (List (Rsc × Int))} {i : Nat} (h : i < ds.length) (on : Nat → Bool) (r : Rsc) : miS (setOff on i) (negQ ds r) = if amt (ds.getD i []) r < 0 then min (miS on (negQ ds r)) (negQ (ds.take i) r).length else miS on (negQ ds r) := by
  obtain ⟨B, h1, h2, h3⟩ := negQ_cut h r;rw [h1]
  generalize negQ (ds.take i) r = A at h2 ⊢
  have hA : A.findIdx (fun j => !setOff on i j) = A.findIdx fun j => !on j := fidx_congr fun j hj => by
    rw [setOff_ne (by have := h2 j hj; omega)]
  have hB : B.findIdx (fun j => !setOff on i j) = B.findIdx fun j => !on j := fidx_congr fun j hj => by
    rw [setOff_ne (by have := h3 j hj; omega)]
  unfold miS
  by_cases h0 : amt (ds.getD i []) r < 0
  · rw [if_pos h0, if_pos h0, fidx_app (fun j => !setOff on i j) A, fidx_app (fun j => !on j) A, hA]
    split
    · omega
    · have : (([i] : List Nat) ++ B).findIdx (fun j => !setOff on i j) = 0 := by
        rw [List.singleton_append, List.findIdx_cons];rw [setOff_at]; rfl
      rw [this]; omega
  · rw [if_neg h0, if_neg h0, List.nil_append, fidx_app (fun j => !setOff on i j) A, fidx_app (fun j => !on j) A, hA, hB]
theorem sumS_off {ds : List (List (Rsc × Int))} {i : Nat} (h : i < ds.length) {on : Nat → Bool} (ho : on i = true) (r : Rsc) : sumS ds (setOff on i) r = sumS ds on r - amt (ds.getD i []) r := by
  obtain ⟨B, h1, h3⟩ := range_cut h;unfold sumS;rw [h1, List.map_append, List.map_append, List.map_cons, List.map_cons, List.sum_append, List.sum_append, List.sum_cons, List.sum_cons]
  have e1 : (List.range i).map (fun j => if setOff on i j = true then amt (ds.getD j []) r else 0) = (List.range i).map fun j => if on j = true then amt (ds.getD j []) r else 0 := List.map_congr_left fun j hj => by
    rw [setOff_ne (by have := List.mem_range.1 hj; omega)]
  have e2 : B.map (fun j => if setOff on i j = true then amt (ds.getD j []) r else 0) = B.map fun j => if on j = true then amt (ds.getD j []) r else 0 := List.map_congr_left fun j hj => by
    rw [setOff_ne (by have := h3 j hj; omega)]
  have e3 : (if setOff on i i = true then amt (ds.getD i []) r else 0) = 0 := by rw [setOff_at]; rfl
  rw [e1, e2, e3, if_pos ho];omega
theorem sub_ers : ∀ (l : List (Nat × Int)) (po : List Po), (l.foldl subE po).map ersP = l.foldl subE (po.map ersP)
  | [], _ => rfl
  | e :: l, po => by
    rw [List.foldl_cons, List.foldl_cons, sub_ers l]
    congr 1
    unfold subE;rw [List.getElem?_map]
    cases po[e.1]? with
    | none => rfl
    | some y => show (po.set e.1 _).map ersP = _; rw [List.map_set]; rfl
theorem min_ers : ∀ (l : List (Nat × Nat)) (po : List Po), (l.foldl minE po).map ersP = l.foldl minE (po.map ersP)
  | [], _ => rfl
  | e :: l, po => by
    rw [List.foldl_cons, List.foldl_cons, min_ers l]
    congr 1
    unfold minE;rw [List.getElem?_map]
    cases po[e.1]? with
    | none => rfl
    | some y => show (po.set e.1 _).map ersP = _; rw [List.map_set]; rfl
theorem rm_S {ros : List Roo} {its : List Itm} (hn : (ros.map Roo.r).Nodup) {on : Nat → Bool} {N : Net} (h : ersN N = netS ros its on) {i : Nat} (hi : i < its.length) (ho : on i = true) {x : Nd} (hx : N.nd[i]? = some x) : ersN (rmN N i x) = netS ros its (setOff on i) := by
  have hnd : N.nd.map ers = (List.range its.length).map (ndS (ros.map Roo.r) its on) := congrArg Net.nd h;have hpo : N.po.map ersP = ros.map (poS (its.map dltS) on) := congrArg Net.po h
  have hxe : ers x = ndS (ros.map Roo.r) its on i := by
    have h1 : (N.nd.map ers)[i]? = some (ers x) := by rw [List.getElem?_map, hx]; rfl
    rw [hnd, List.getElem?_map, List.getElem?_range hi] at h1;exact (Option.some.inj h1).symm
  have hef : x.ef = efK (ros.map Roo.r) (dltS (its.getD i itm0)) := congrArg Nd.ef hxe;have hpl : x.pl = plK (ros.map Roo.r) ((its.map dltS).take i) (dltS (its.getD i itm0)) := congrArg Nd.pl hxe;have hdi : i < (its.map dltS).length := by simpa using hi
  have hgi : (its.map dltS).getD i [] = dltS (its.getD i itm0) := by rw [ZaL [] hdi, ZaL itm0 hi, List.getElem_map]
  unfold ersN rmN netS;dsimp only
  congr 1
  · rw [List.map_set, hnd]
    have : ers (offN x) = ndS (ros.map Roo.r) its (setOff on i) i := by
      have h1 : ers (offN x) = offN (ers x) := rfl;rw [h1, hxe];unfold ndS offN setOff;rw [if_pos rfl]
    rw [this];refine List.ext_getElem? fun j => ?_;rw [List.getElem?_set]
    by_cases e : i = j
    · subst e;rw [if_pos rfl, if_pos (by simpa using hi), List.getElem?_map, List.getElem?_range hi]; rfl
    · rw [if_neg e, List.getElem?_map, List.getElem?_map]
      cases hj : (List.range its.length)[j]? with
      | none => rfl
      | some z =>
        have hz := List.getElem?_eq_some_iff.1 hj;have : z = j := by have := hz.2; simp at this; exact this.symm
        subst this;show some _ = some _;unfold ndS setOff;rw [if_neg (fun h => e h.symm)]
  · rw [min_ers, sub_ers, hpo, hef, hpl, sub_fold hn _ _ (dltS_nodup _), min_fold hn _ _ _ (dltS_nodup _)];refine List.map_congr_left fun z _ => ?_;unfold poS;dsimp only;rw [sumS_off hdi ho, miS_off hdi, hgi]
theorem ers_getN (N : Net) (i : Nat) : (ersN N).nd.getD i nd0 = ers (N.nd.getD i nd0) := by
  show (N.nd.map ers).getD i nd0 = _;rw [List.getD_eq_getElem?_getD, List.getD_eq_getElem?_getD, List.getElem?_map]
  cases N.nd[i]? <;> rfl
theorem ers_getP (N : Net) (j : Nat) : (ersN N).po.getD j po0 = ersP (N.po.getD j po0) := by
  show (N.po.map ersP).getD j po0 = _;rw [List.getD_eq_getElem?_getD, List.getD_eq_getElem?_getD, List.getElem?_map]
  cases N.po[j]? <;> rfl
theorem ers_ids (N : Net) : idsN (ersN N) = idsN N := by
  unfold idsN ersN;rw [List.map_map]; rfl
theorem inadm_ers (N : Net) (x : Nd) : inadm (ersN N) (ers x) = inadm N x := by
  have h1 : badP (ersN N) = badP N := funext fun e => by unfold badP; rw [ers_getP]; rfl
  have h2 : ∀ e, excQ (ersN N) (ers x) e = excQ N x e := fun e => by unfold excQ; rw [ers_getP, ers_getN]; rfl
  have h3 : offOf (ersN N) = offOf N := funext fun e => by unfold offOf; rw [ers_getN, ers_ids]; rfl
  unfold inadm;rw [h1, h3];show (match x.pl.find? (badP N) with | some e => _ | none => match x.it.af.find? (offOf N) with | some id => _ | none => _) = _
  cases x.pl.find? (badP N) with
  | some e => show some (excQ (ersN N) (ers x) e) = some (excQ N x e); rw [h2]
  | none => rfl
theorem next_ers (N : Net) : nextN (ersN N) = nextN N := by
  have h1 : (ersN N).nd.findSome? (ndX (ersN N)) = N.nd.findSome? (ndX N) := by
    show (N.nd.map ers).findSome? _ = _;rw [List.findSome?_map]
    congr 1
    funext x
    show ndX (ersN N) (ers x) = ndX N x;unfold ndX;rw [inadm_ers]; rfl
  have h2 : (ersN N).po.findSome? (poX (ersN N)) = N.po.findSome? (poX N) := by
    show (N.po.map ersP).findSome? _ = _;rw [List.findSome?_map]
    congr 1
    funext y
    show poX (ersN N) (ersP y) = poX N y;have h3 : onN (ersN N) = onN N := funext fun i => by unfold onN; rw [ers_getN]; rfl
    have h4 : ∀ i, ((ersN N).nd.getD i nd0).it.id = (N.nd.getD i nd0).it.id := fun i => by rw [ers_getN]; rfl
    unfold poX;rw [h3];show (if ovP y y.sum = true then (y.q.reverse.find? (onN N)).map fun i => (⟨((ersN N).nd.getD i nd0).it.id, 0, y.r, -1⟩ : Exc) else none) = _;rw [show (fun i => (⟨((ersN N).nd.getD i nd0).it.id, 0, y.r, -1⟩ : Exc)) = fun i => ⟨(N.nd.getD i nd0).it.id, 0, y.r, -1⟩ from funext fun i => by rw [h4]]
  unfold nextN;rw [h1, h2]
theorem inadm_id {N : Net} {x : Nd} {e : Exc} (h : inadm N x = some e) : e.id = x.it.id := by
  unfold inadm at h
  split at h
  · injection h with h; subst h; rfl
  · split at h
    · injection h with h; subst h; rfl
    · cases h
theorem next_on {N : Net} {e : Exc} (h : nextN N = some e) : ∃ (i : Nat) (x : Nd), N.nd[i]? = some x ∧ x.on = true ∧ e.id = x.it.id := by
  unfold nextN at h
  split at h
  · rename_i e' h1
    injection h with h; subst h
    obtain ⟨x, hx, h2⟩ := List.exists_of_findSome?_eq_some h1;obtain ⟨i, hi, e1⟩ := List.getElem_of_mem hx;unfold ndX at h2
    split at h2
    · rename_i ho
      exact ⟨i, x, by rw [List.getElem?_eq_getElem hi, e1], ho, inadm_id h2⟩
    · cases h2
  · obtain ⟨y, hy, h2⟩ := List.exists_of_findSome?_eq_some h;unfold poX at h2
    split at h2
    · cases hf : y.q.reverse.find? (onN N) with
      | none => rw [hf] at h2; cases h2
      | some i =>
        rw [hf] at h2;injection h2 with h2; subst h2
        have ho := List.find?_some hf;unfold onN at ho
        by_cases hi : i < N.nd.length
        · rw [ZaL nd0 hi] at ho;exact ⟨i, N.nd[i], List.getElem?_eq_getElem hi, ho, by show (N.nd.getD i nd0).it.id = _; rw [ZaL nd0 hi]⟩
        · rw [List.getD_eq_getElem?_getD, List.getElem?_eq_none (by omega)] at ho
          cases ho
    · cases h2
structure SmO (ros : List Roo) (its : List Itm) : Prop where
  l : its.length ≤ 30
  x : ∀ x ∈ its, FewI x
  i : (its.map Itm.id).Nodup
  a : ∀ x ∈ its, ∀ id ∈ x.af, id ∈ its.map Itm.id
  r : (ros.map Roo.r).Nodup
  n : ∀ x ∈ ros, -4000000000000000 ≤ x.n ∧ x.n ≤ 4000000000000000
  o : ros.length ≤ 100
theorem S_nd {ros : List Roo} {its : List Itm} {on : Nat → Bool} {x : Nd} (h : x ∈ (netS ros its on).nd) : ∃ i, i < its.length ∧ x = ndS (ros.map Roo.r) its on i := by
  obtain ⟨i, hi, e⟩ := List.mem_map.1 h;exact ⟨i, List.mem_range.1 hi, e.symm⟩
theorem S_ids (ros : List Roo) (its : List Itm) (on : Nat → Bool) : idsN (netS ros its on) = its.map Itm.id := by
  unfold idsN netS;rw [List.map_map]
  apply List.ext_getElem (by simp)
  intro i a b;simp only [List.getElem_map, List.getElem_range, Function.comp];show (its.getD i itm0).id = _;rw [ZaL itm0 (by simpa using b)]
theorem efK_mem {rs : List Rsc} {D : List (Rsc × Int)} {e : Nat × Int} (h : e ∈ efK rs D) : ∃ d ∈ D, e.2 = d.2 := by
  obtain ⟨d, hd, rfl⟩ := List.mem_map.1 h;exact ⟨d, (List.mem_filter.1 hd).1, rfl⟩
theorem plK_mem {rs : List Rsc} {ds : List (List (Rsc × Int))} {D : List (Rsc × Int)} {e : Nat × Nat} (h : e ∈ plK rs ds D) : ∃ d ∈ D, d.1 ∈ rs ∧ d.2 < 0 ∧ e = (rs.idxOf d.1, (negQ ds d.1).length) := by
  obtain ⟨d, hd, rfl⟩ := List.mem_map.1 h;have h1 := List.mem_filter.1 hd;have h2 := h1.2;simp only [Bool.and_eq_true, decide_eq_true_eq] at h2;exact ⟨d, h1.1, h2.1, h2.2, rfl⟩
theorem S_sum {ros : List Roo} {its : List Itm} (h : SmO ros its) (on : Nat → Bool) (r : Rsc) : -30000000000000000 ≤ sumS (its.map dltS) on r ∧ sumS (its.map dltS) on r ≤ 30000000000000000 := by
  have key : ∀ l : List Nat, -(l.length * 1000000000000000) ≤ (l.map fun i => if on i = true then amt ((its.map dltS).getD i []) r else 0).sum ∧ (l.map fun i => if on i = true then amt ((its.map dltS).getD i []) r else 0).sum ≤ l.length * 1000000000000000 := by
    intro l
    induction l with
    | nil => simp
    | cons i l ih =>
      simp only [List.map_cons, List.sum_cons, List.length_cons]
      have hb : Bnd ((its.map dltS).getD i []) := by
        rcases getD_mem (l := its.map dltS) (d := []) i with hm | hm
        · obtain ⟨x, _, e⟩ := List.mem_map.1 hm; rw [← e]; exact dlt_bnd x
        · rw [hm]; intro x hx; cases hx
      have h1 := amt_bnd hb r
      split <;> omega
  have h1 := key (List.range (its.map dltS).length);have h2 := h.l;unfold sumS;rw [List.length_range, List.length_map] at h1;rw [List.length_map] at *;omega
theorem S_w {ros : List Roo} {its : List Itm} (h : SmO ros its) (on : Nat → Bool) : NetW (netS ros its on) := by
  have hl := h.l
  have hmi : ∀ y ∈ (netS ros its on).po, y.q.length ≤ 30 ∧ y.mi ≤ 30 ∧ ∃ x ∈ ros, y = poS (its.map dltS) on x := fun y hy => by
    obtain ⟨x, hx, e⟩ := List.mem_map.1 hy;subst e;have h1 := negQ_len (its.map dltS) x.r;rw [List.length_map] at h1;have h2 : miS on (negQ (its.map dltS) x.r) ≤ (negQ (its.map dltS) x.r).length := List.findIdx_le_length;exact ⟨by show (negQ _ _).length ≤ _; omega, by show miS _ _ ≤ _; omega, x, hx, rfl⟩
  refine ⟨by rw [S_ids]; exact h.i, fun x hx id hid => ?_, fun x hx => ?_, fun x hx e he => ?_, fun x hx e he => ?_, fun y hy => ?_, fun y hy => ?_, ?_, fun y hy => ?_⟩
  · obtain ⟨i, hi, rfl⟩ := S_nd hx;rw [S_ids];refine h.a (its.getD i itm0) (by rw [ZaL itm0 hi]; exact List.getElem_mem hi) id hid
  · obtain ⟨i, hi, rfl⟩ := S_nd hx;have hm : its.getD i itm0 ∈ its := by rw [ZaL itm0 hi]; exact List.getElem_mem hi
    have h1 := dlt_len (h.x _ hm);have h2 := efK_len (ros.map Roo.r) (dltS (its.getD i itm0));have h3 := plK_len (ros.map Roo.r) ((its.map dltS).take i) (dltS (its.getD i itm0));have h4 := (h.x _ hm).2.2;exact ⟨by show (efK _ _).length ≤ _; omega, by show (plK _ _ _).length ≤ _; omega, by show (its.getD i itm0).af.length ≤ _; omega⟩
  · obtain ⟨i, hi, rfl⟩ := S_nd hx;obtain ⟨d, hd, e1⟩ := efK_mem he;have := dlt_bnd _ d hd;rw [e1]; omega
  · obtain ⟨i, hi, rfl⟩ := S_nd hx;obtain ⟨d, hd, hm, hneg, rfl⟩ := plK_mem he;obtain ⟨hj, hr⟩ := idx_ros hm;have hdi : i < (its.map dltS).length := by simpa using hi
    have hgi : (its.map dltS).getD i [] = dltS (its.getD i itm0) := by rw [ZaL [] hdi, ZaL itm0 hi, List.getElem_map]
    have hamt : amt ((its.map dltS).getD i []) d.1 = d.2 := by rw [hgi]; exact Zcl (dltS_nodup _) hd
    obtain ⟨B, c1, c2, c3⟩ := negQ_cut hdi d.1
    have hq : ((netS ros its on).po.getD ((ros.map Roo.r).idxOf d.1) po0).q = negQ (its.map dltS) d.1 := by
      show ((ros.map _).getD _ po0).q = _;rw [ZaL po0 (by simpa using hj), List.getElem_map];show negQ _ (ros[(ros.map Roo.r).idxOf d.1]).r = _;rw [hr]
    rw [hq];dsimp only;have hlen := congrArg List.length c1;rw [if_pos (by rw [hamt]; exact hneg), List.length_append, List.length_append, List.length_singleton] at hlen;have h1 := negQ_len ((its.map dltS).take i) d.1;rw [List.length_take, List.length_map] at h1;omega
  · have := hmi y hy; omega
  · obtain ⟨_, _, x, hx, rfl⟩ := hmi y hy;have := h.n x hx;show -1000000000000000000 ≤ x.n ∧ x.n ≤ 1000000000000000000;omega
  · have h1 : (netS ros its on).nd.length = its.length := by unfold netS; simp
    have h2 : (netS ros its on).po.length = ros.length := by unfold netS; simp
    have := h.o;omega
  · have := hmi y hy; omega
theorem W_ers {N : Net} (h : NetW (ersN N)) : NetW N := by
  have hn : ∀ x ∈ N.nd, ers x ∈ (ersN N).nd := fun x hx => List.mem_map.2 ⟨x, hx, rfl⟩;have hp : ∀ y ∈ N.po, ersP y ∈ (ersN N).po := fun y hy => List.mem_map.2 ⟨y, hy, rfl⟩;refine ⟨by rw [← ers_ids]; exact h.i, fun x hx id hid => by rw [← ers_ids]; exact h.a _ (hn x hx) id hid, fun x hx => h.l (ers x) (hn x hx), fun x hx => h.e (ers x) (hn x hx), fun x hx e he => ?_, fun y hy => h.m (ersP y) (hp y hy), fun y hy => h.rm (ersP y) (hp y hy), ?_, fun y hy => h.ql (ersP y) (hp y hy)⟩
  · have := h.p _ (hn x hx) e he;rw [ers_getP] at this; exact this
  · have := h.n;have h1 : (ersN N).nd.length = N.nd.length := by unfold ersN; simp
    have h2 : (ersN N).po.length = N.po.length := by unfold ersN; simp
    omega
theorem S_sumB {N : Net} {ros : List Roo} {its : List Itm} (h : SmO ros its) {on : Nat → Bool} (hN : ersN N = netS ros its on) : sumB N.po 1000000000000000000 := fun y hy => by
  have h1 : ersP y ∈ (ersN N).po := List.mem_map.2 ⟨y, hy, rfl⟩;rw [hN] at h1;obtain ⟨x, hx, e⟩ := List.mem_map.1 h1;have h2 := S_sum h on x.r;have h3 : y.sum = sumS (its.map dltS) on x.r := congrArg Po.sum e.symm;rw [h3]; omega
def runS (ros : List Roo) (its : List Itm) : Nat → (Nat → Bool) → List Exc × (Nat → Bool)
  | 0, on => ([], on)
  | f + 1, on => match nextN (netS ros its on) with
    | none => ([], on)
    | some e => (e :: (runS ros its f (setOff on ((its.map Itm.id).idxOf e.id))).1, (runS ros its f (setOff on ((its.map Itm.id).idxOf e.id))).2)
def cntOn (n : Nat) (on : Nat → Bool) : Nat := ((List.range n).filter on).length
def explS (p : Prb) : List Exc × (Nat → Bool) := runS (rosS p) (ordP p) (ordP p).length fun _ => true
def onIds (its : List Itm) (on : Nat → Bool) (k : Nat) : List Int := ((List.range k).filter on).map fun i => (its.getD i itm0).id
theorem cntOn_off {n i : Nat} (hi : i < n) {on : Nat → Bool} (ho : on i = true) : cntOn n (setOff on i) + 1 = cntOn n on := by
  obtain ⟨B, h1, h3⟩ := range_cut hi;unfold cntOn;rw [h1, List.filter_append, List.filter_append, List.length_append, List.length_append, List.filter_cons, List.filter_cons, setOff_at, ho];have e1 : (List.range i).filter (setOff on i) = (List.range i).filter on := List.filter_congr fun j hj => setOff_ne (by have := List.mem_range.1 hj; omega);have e2 : B.filter (setOff on i) = B.filter on := List.filter_congr fun j hj => setOff_ne (by have := h3 j hj; omega);rw [e1, e2]
  simp
  omega
theorem idx_nodup {α : Type} [BEq α] [LawfulBEq α] {l : List α} (hn : l.Nodup) {i : Nat} (hi : i < l.length) : l.idxOf l[i] = i := by
  have h1 : l.idxOf l[i] < l.length := List.idxOf_lt_length_of_mem (List.getElem_mem hi);have h2 := List.getElem_idxOf h1;exact (List.getElem_inj hn).1 h2
theorem run_none {ros : List Roo} {its : List Itm} {f : Nat} {on : Nat → Bool} (h : nextN (netS ros its on) = none) : runS ros its f on = ([], on) := by
  cases f with
  | zero => rfl
  | succ f => unfold runS; rw [h]
theorem run_some {ros : List Roo} {its : List Itm} {f : Nat} {on : Nat → Bool} {e : Exc} (h : nextN (netS ros its on) = some e) : runS ros its (f + 1) on = (e :: (runS ros its f (setOff on ((its.map Itm.id).idxOf e.id))).1, (runS ros its f (setOff on ((its.map Itm.id).idxOf e.id))).2) := by
  show (match nextN (netS ros its on) with | none => _ | some e => _) = _;rw [h]
theorem S_nd_at {ros : List Roo} {its : List Itm} {on : Nat → Bool} {N : Net} (h : ersN N = netS ros its on) {i : Nat} {x : Nd} (hx : N.nd[i]? = some x) : i < its.length ∧ x.on = on i ∧ x.it = its.getD i itm0 := by
  have h1 : (N.nd.map ers)[i]? = some (ers x) := by rw [List.getElem?_map, hx]; rfl
  rw [show N.nd.map ers = (List.range its.length).map (ndS (ros.map Roo.r) its on) from congrArg Net.nd h] at h1;have hi : i < its.length := by have := (List.getElem?_eq_some_iff.1 h1).1; simpa using this
  rw [List.getElem?_map, List.getElem?_range hi] at h1;have h2 : ers x = ndS (ros.map Roo.r) its on i := (Option.some.inj h1).symm;exact ⟨hi, congrArg Nd.on h2, congrArg Nd.it h2⟩
theorem onIds_snoc (its : List Itm) (on : Nat → Bool) (k : Nat) : onIds its on (k + 1) = onIds its on k ++ if on k = true then [(its.getD k itm0).id] else [] := by
  unfold onIds;rw [List.range_succ, List.filter_append, List.map_append, filt1]
  split <;> rfl
theorem onIds_len (its : List Itm) (on : Nat → Bool) (k : Nat) : (onIds its on k).length ≤ k := by
  unfold onIds;rw [List.length_map];exact Nat.le_trans (List.length_filter_le _ _) (by simp)
theorem S_len {ros : List Roo} {its : List Itm} {on : Nat → Bool} {N : Net} (h : ersN N = netS ros its on) : N.nd.length = its.length := by
  have h1 := congrArg (fun N => N.nd.length) h;have h2 : (N.nd.map ers).length = ((List.range its.length).map _).length := h1
  rwa [List.length_map, List.length_map, List.length_range] at h2
theorem sml_P {p : Prb} (hf : FewP p) (hE : prbE p = 0) : SmO (rosS p) (ordP p) := by
  refine ⟨Nat.le_trans (ordP_len p) hf.i, fun x hx => hf.x x (ordP_mem hx), ord_ids hE, fun x hx id hid => ?_, rosS_nodup hE, fun x hx => ?_, ?_⟩
  · have h1 : ordP p = sortO p.it := if_pos hE;have h2 : fErr (p.it.map Itm.id) x = 0 := fst0_all (ZbC hE).2.2 _ (List.mem_map.2 ⟨x, ordP_mem hx, rfl⟩)
    have h3 : id ∈ p.it.map Itm.id := by
      unfold fErr at h2
      split at h2
      · cases h2
      · rename_i h4
        by_cases h5 : id ∈ p.it.map Itm.id
        · exact h5
        · exact absurd (List.any_eq_true.2 ⟨id, hid, by unfold notIn; simpa using h5⟩) h4
    rw [h1];exact ((Zbq p.it).map Itm.id).mem_iff.2 h3
  · have h1 : x ∈ p.ro := by
      obtain ⟨i, hi, rfl⟩ := List.mem_map.1 hx;have hi' := List.mem_range.1 ((ZbU (p.ro.map Roo.r)).mem_iff.1 hi);rw [ZaL roo0 (by simpa using hi')]; exact List.getElem_mem _
    exact rooms_amt (ZbC hE).1 x h1
  · unfold rosS; rw [List.length_map, (ZbU _).length_eq, List.length_range, List.length_map]; exact hf.r
set_option maxHeartbeats 1000000 in
theorem explain_ok (p : Prb) (hf : FewP p) (hE : prbE p = 0) : PCalls Tryz.prog 21 [.d (prbD p)] (.tup [.sl none ((onIds (ordP p) (explS p).2 (ordP p).length).map intD), .sl none ((explS p).1.map excD), intD 0]) := by
  have hbu := build_ok p hf hE;have hsm := sml_P hf hE;unfold explS;rw [netP_S] at hbu
  obtain ⟨its, hits⟩ : ∃ its, ordP p = its := ⟨_, rfl⟩
  obtain ⟨ros, hros⟩ : ∃ ros, rosS p = ros := ⟨_, rfl⟩
  rw [hits, hros] at hbu hsm ⊢;have hl := hsm.l;refine ZaG Tryz.func21 rfl rfl Tryz.ntmps21 rfl rfl rfl fun F hF => (Zae (Zab ?_));refine Zaj.go (Za0 1 rfl rfl rfl rfl rfl rfl rfl) (goAs rfl rfl (goAs rfl rfl (goAs rfl rfl (Zac (a_scope (Zae (Zab (Zaa.go (Zav rfl rfl rw35 rfl rfl rfl) ?_))))))));refine o_step (st_callX hbu rfl [40, 50, 51] ⟨rfl, rfl, rfl, trivial⟩ rfl rfl rfl rfl (fun r H' ⟨_, _, _, _, _, _, _, e1, e2, _⟩ => by subst e1 e2; exact ⟨rfl, rfl, rfl⟩) rfl) rfl ?_; rintro _ ⟨r, H', ⟨wb, mv, nb, pb, N, M, bs, rfl, rfl, hR, hN⟩, rfl⟩;refine goMv rfl rfl (Zaa.go (Za3 rfl rfl rfl) (Zaa.go (Za3 rfl rfl rfl) (goAs rfl rfl (goAs rfl rfl (Zac ?_)))));refine Zae (Zae (Zab (goMv rfl rfl (Zaa.go (Zbf rfl rfl rfl) (Zac (Zbm rfl (rfl) (Zar (Zae ?_))))))));have hids : idsN N = its.map Itm.id := by rw [← ers_ids, hN, S_ids]
  rw [hids];refine Zab (goAs rfl rfl (Zac (Zae (a_label (Zae (Zaq (a_adopt 7 900 sl42 rfl rfl rfl rfl (ZaP (α := (Nat → Bool) × Net × MF × List Exc × Nat) (fun q => ⟨64, [(5, (.d (pD wb 0))), (7, (.own 900 0 q.2.2.2.1.length))], (900, [.rowD 53 9 (q.2.2.2.1.map excD)]) :: HW mv bs (byL nb (its.map Itm.id)) q.2.2.1⟩) (fun q => Rep wb mv nb pb q.2.1 q.2.2.1 ∧ ersN q.2.1 = netS ros its q.1 ∧ cntOn its.length q.1 ≤ q.2.2.2.2 ∧ q.2.2.2.1.length + q.2.2.2.2 ≤ its.length ∧ q.2.2.2.1 ++ (runS ros its q.2.2.2.2 q.1).1 = (runS ros its its.length fun _ => true).1 ∧ (runS ros its q.2.2.2.2 q.1).2 = (runS ros its its.length fun _ => true).2) (fun q => q.2.2.2.2) ((fun _ => true, N, M, [], its.length)) (⟨hR, hN, by show ((List.range its.length).filter _).length ≤ _; exact Nat.le_trans (List.length_filter_le _ _) (by simp), by simp, rfl, rfl⟩) (Zau hF [900, 40, 50, 51] rfl rfl ⟨rfl, rfl, trivial⟩) ?_))))))));rintro ⟨on, N, M, acc, f⟩ ⟨hR, hN, hc, hal, hr1, hr2⟩;dsimp only at hR hN hc hal hr1 hr2 ⊢;refine Zaq (Zae ?_);have hw := W_ers (N := N) (by rw [hN]; exact S_w hsm on);have hsb := S_sumB hsm hN;have hids : idsN N = its.map Itm.id := by rw [← ers_ids, hN, S_ids]
  have hnx := next_c bs hR hw hsb;rw [hids] at hnx;refine Zab (goMv rfl rfl (Zaj.go (Zbt hnx rfl [40, 50, 51] ⟨rfl, rfl, rfl, trivial⟩ rfl rfl rfl rfl rfl rfl rfl rfl rfl) (goMv rfl rfl ?_)))
  cases hne : nextN N
  · refine Zaa.go (Za3 rfl rfl rfl) (Zaa.go (Za3 rfl rfl rfl) (Zaj.go (ZaV 2 zl53 rfl rfl rfl rfl) (Zaj.go (ZaA rfl rfl rfl rfl rfl rfl rfl sz53) (goAs rfl rfl (Zac ?_)))));refine Zae (Zae (Zab (goMv rfl rfl (Zaa.go (ZbK rfl rfl) (Zac (ZaU rfl (rfl) (ZaR (Zae ?_))))))));have hro : runS ros its f on = ([], on) := run_none (by rw [← hN, next_ers, hne]);rw [hro] at hr1 hr2;rw [List.append_nil] at hr1;dsimp only at hr2;have hwb := hR.w;have hnr : rowAt M N.nh pnT 1 ((List.range N.nd.length).map fun i => ptrD (nb i)) := hR.rs.1 .n;have hnz := ZbD hnr;rw [List.length_range] at hnz;have hNl := S_len hN;refine Zab (goAs rfl rfl (Zac (Zae (Zae (Zab (goMv rfl rfl ?_))))));refine Zaa.go (ZaE rfl rfl) (Zaa.go (Zan rfl fi108_0 rfl rfl rfl) (Zaa.go (Za1 (f := 40) rfl rfl (hwb) rfl on104 rfl) (Zaa.go (Zcc hnz rfl Tryz.underlying104 rfl) (goMv rfl rfl (Zac (Zaq (a_adopt 10 901 sl28 rfl rfl rfl rfl (ZaP (α := Nat × List Int) (fun q => ⟨64, [(7, (.own 900 0 acc.length)), (10, (.own 901 0 q.2.length)), (43, (.d (hdr N.nh N.nd.length))), (44, (.d (intD (N.nd.length : Int)))), (45, (.d (intD (q.1 : Int))))], (901, [.rowD 3 1 (q.2.map intD)]) :: (900, [.rowD 53 9 (acc.map excD)]) :: HW mv bs (byL nb (its.map Itm.id)) M⟩) (fun q => q.1 ≤ N.nd.length ∧ q.2 = onIds its on q.1) (fun q => N.nd.length - q.1) ((0, [])) (⟨Nat.zero_le _, rfl⟩) (Zau hF [901, 900, 40, 50, 51] rfl rfl ⟨rfl, rfl, rfl, rfl, rfl, trivial⟩) ?_))))))));rintro ⟨k, ids⟩ ⟨hk0, hI⟩;dsimp only at hk0 hI ⊢;refine Zae (Zab (Zaa.go (ZaN rfl rfl rfl) (Zac (Zae (ZaH rfl (fun h46 => ?_) (fun h46 => ?_))))))
    · have hk1 : k < N.nd.length := ZaO h46;refine Zar (Zae (Zaq (Zae ?_)))
      obtain ⟨x, hx⟩ : ∃ x, N.nd[k]? = some x := ⟨_, List.getElem?_eq_getElem hk1⟩
      obtain ⟨hiN, hoi, hit⟩ := S_nd_at hN hx;have hxb := hR.n k x hx;obtain ⟨rb, rc, hre⟩ := ZbJ hnr (j := k) (by rw [List.length_range]; exact hk1);have hrow := ZbT hnr hre;have hidl : ids.length ≤ k := by rw [hI]; exact onIds_len its on k
      refine Zab (Zaa.go (ZbZ hre (k) rfl rfl rfl hk1 Tryz.underlying104 sz103 rfl) (Zaa.go (Zct (f := 40) (e := k) (off := 0) rfl (by omega) rfl (hrow) ((by rw [List.getElem?_map, List.getElem?_range hk1]; rfl)) rfl on103 rfl) ?_));refine goAs rfl rfl ?_;refine Zac (Zae (Zab (goMv rfl rfl (Zaa.go (ZaE rfl rfl) (Zaa.go (Zan rfl fi112_3 rfl rfl rfl) (Zaa.go (Za1 (f := 40) rfl rfl (hxb) rfl on4 rfl) (Zac (Zbb rfl (fun h52 => ?_) (fun h52 => ?_)))))))))
      · refine Zab (goMv rfl rfl (goMv rfl rfl (Zaa.go (ZaE rfl rfl) (Zaa.go (Zan rfl fi112_0 rfl rfl rfl) (Zaa.go (Zan rfl Zb7 rfl rfl rfl) ?_)))));refine Zaa.go (Za1 (f := 40) rfl rfl (hxb) rfl on3 rfl) (Zaj.go (ZaJ 3 sl28 rfl rfl rfl rfl rfl rfl rfl rfl) (Zaj.go (Zbp (ids) ([x.it.id]) rfl rfl rfl rfl rfl rfl rfl rfl sl28 (by simp only [List.length_singleton]; omega) rfl rfl rfl rfl) (goAs rfl rfl (Zac (Zab (Zaa.go (ZaF rfl rfl (wrapS (k + 1) (by omega)) rfl) (goMv rfl rfl (Zac ?_))))))));exact ⟨(k + 1, _), ⟨by show k + 1 ≤ _; omega, by show _ = onIds its on (k + 1); rw [onIds_snoc, if_pos (by rw [← hoi]; simpa using h52), ← hI, ← hit]⟩, by show N.nd.length - (k + 1) < N.nd.length - k; omega, Zau hF [901, 900, 40, 50, 51] rfl (rfl) ⟨rfl, rfl, rfl, rfl, rfl, trivial⟩⟩
      · refine Zar (Zab (Zaa.go (ZaF rfl rfl (wrapS (k + 1) (by omega)) rfl) (goMv rfl rfl (Zac ?_))));exact ⟨(k + 1, _), ⟨by show k + 1 ≤ _; omega, by show _ = onIds its on (k + 1); rw [onIds_snoc, if_neg (by rw [← hoi]; simpa using h52), List.append_nil, ← hI]⟩, by show N.nd.length - (k + 1) < N.nd.length - k; omega, Zau hF [901, 900, 40, 50, 51] rfl (rfl) ⟨rfl, rfl, rfl, rfl, rfl, trivial⟩⟩
    · refine ZaR (Zae ?_);have hke : k = its.length := by have h := h46; omega
      refine a_freezeM (emb := excD) 7 900 acc rfl rfl rfl rfl rfl rfl rfl ?_;refine a_freezeM (emb := intD) 10 901 ids rfl rfl rfl rfl rfl rfl rfl (Zab (goMv rfl rfl (goMv rfl rfl (goAs rfl rfl (goAs rfl rfl (goAs rfl rfl (Zac (Zao ?_))))))));exact ⟨_, [], [], Zam rfl, rfl, rfl, by rw [← hr2, ← hr1, hI, hke], rfl⟩
  · refine Zaa.go (Za3 rfl rfl rfl) (Zaa.go (Za3 rfl rfl rfl) (Zaj.go (ZaV 4 zl53 rfl rfl rfl rfl) (Zaj.go (ZaA rfl rfl rfl rfl rfl rfl rfl sz53) (goAs rfl rfl (Zac ?_)))));refine Zae (Zae (Zab (goMv rfl rfl (Zaa.go (ZbK rfl rfl) (Zac (Zbm rfl (rfl) (Zar (Zae ?_))))))))
    rename_i e
    obtain ⟨i, x, hx, hon, hid⟩ := next_on hne;obtain ⟨hiN, hoi, hit⟩ := S_nd_at hN hx;rw [hon] at hoi;have hoi := hoi.symm;have hil : i < (its.map Itm.id).length := by rw [List.length_map]; exact hiN
    have hei : (its.map Itm.id)[i] = e.id := by rw [hid, hit, List.getElem_map, ZaL itm0 hiN]
    have hby := byL_get (nb := nb) hsm.i hil;rw [hei] at hby;have hcn := cntOn_off hiN hoi
    obtain ⟨f2, rfl⟩ : ∃ f2, f = f2 + 1 := ⟨f - 1, by omega⟩
    have hrs : runS ros its (f2 + 1) on = (e :: (runS ros its f2 (setOff on i)).1, (runS ros its f2 (setOff on i)).2) := by rw [run_some (by rw [← hN, next_ers, hne]), ← hei, idx_nodup hsm.i hil]
    have hxm := List.mem_of_getElem? hx;have hrm := remove_c hR hx hsb (hw.e x hxm) (hw.l x hxm).1 (hw.l x hxm).2.1 (fun e he => (hw.p x hxm e he).2) hw.m;refine Za5 [[], [0], [0, 1], [0, 1, 2], [], [4], [0, 1, 2, 3, 4, 5], [0, 1, 2, 3, 4, 5, 6]] mixed rfl (dws (Zaf [5] [] rfl rfl (fun _ => Zad (ZaI rfl rfl)) (Zaf [28] [] rfl rfl (fun _ => Zad (ZaE rfl rfl)) ?_)));refine Zaf [29] [] rfl rfl (fun _ => Zad (Zan rfl fi108_2 rfl rfl rfl)) (Zaf [30] [40] rfl rfl (fun _ => Zad (Za1 (f := 40) rfl rfl (hR.w) rfl on106 rfl)) (Zaf [8] [] rfl rfl (fun _ => Zad (Zag rfl fi53_0 rfl rfl rfl)) (Zaf [32] [4] rfl rfl (fun _ => Zad (Zah rfl rfl rfl on3 rfl)) (dwc 6 rfl rfl rfl (dw1 7 rfl rfl (o_rawMap 31 51 0 rfl rfl (Zaa.go (ZbG (byL nb (its.map Itm.id)) e.id (.pointer none) (pV (nb i) 0) rfl rfl rfl mt106 kt3 za103 hby rfl) (Zac ⟨rfl, ?_⟩))))))));refine dw1 8 rfl rfl ?_;refine o_step (st_callX hrm rfl [40] ⟨rfl, trivial⟩ rfl rfl rfl rfl (fun r H' ⟨e1, M', e2, _⟩ => by subst e1 e2; exact ⟨rfl, rfl, rfl⟩) rfl) rfl ?_; rintro _ ⟨r, H', ⟨rfl, M2, rfl, hR2⟩, rfl⟩;refine Zac ⟨rfl, ?_⟩;refine dwe (Zab (goMv rfl rfl (Zaa.go (Zav rfl rfl rw53 rfl rfl rfl) (Zaj.go (ZaJ 5 sl42 rfl rfl rfl rfl rfl rfl rfl rfl) (Zaj.go (Zbp (acc) ([e]) rfl rfl rfl rfl rfl rfl rfl rfl sl42 (by simp only [List.length_singleton]; omega) rfl rfl rfl rfl) (goAs rfl rfl (Zac ?_)))))));exact ⟨(setOff on i, rmN N i x, M2, acc ++ [e], f2), ⟨hR2, rm_S hsm.r hN hiN hoi hx, by show cntOn its.length (setOff on i) ≤ f2; omega, by show (acc ++ [e]).length + f2 ≤ _; rw [List.length_append]; simp; omega, by show (acc ++ [e]) ++ (runS ros its f2 (setOff on i)).1 = _; rw [List.append_assoc, ← hr1, hrs]; rfl, by show (runS ros its f2 (setOff on i)).2 = _; rw [← hr2, hrs]⟩, by show f2 < f2 + 1; omega, Zau hF [900, 40, 50, 51] rfl (rfl) ⟨rfl, rfl, trivial⟩⟩
theorem has30_p (l : List Int) (x : Int) (hn : l.length ≤ 140737488355328) : PCalls Tryz.prog 29 [.d (.sl none (l.map intD)), .d (intD x)] (.raw (.bool (decide (x ∈ l)))) := by
  refine ZaG Tryz.func29 rfl rfl Tryz.ntmps29 rfl rfl rfl fun F hF => (Zae (Zab ?_));refine goAs rfl rfl (Zac (Zae (Zae (Zab (goAs rfl rfl (Zac (Zaq (a_loop (α := Nat) (fun k => ⟨18, [(0, .d (.sl none (l.map intD))), (1, .d (intD x)), (5, (.d (intD (k : Int))))], []⟩) (fun k => k ≤ l.length ∧ x ∉ l.take k) (fun k => l.length - k) (0) (⟨Nat.zero_le _, by simp⟩) (le_of_has ⟨rfl, rfl, rfl, trivial⟩) ?_))))))));rintro k ⟨hk0, hk⟩;refine Zae (Zae (Zab (goMv rfl rfl (goMv rfl rfl (Zaa.go (ZaD rfl Tryz.underlying28 rfl) (Zaa.go (ZaN rfl rfl rfl) (Zac (ZaH rfl (fun h9 => ?_) (fun h9 => ?_)))))))))
  · have hk1 : k < l.length := ZaO h9;refine Zar (Zae (Zaq (Zae ?_)));refine Zab (goMv rfl rfl (goMv rfl rfl (Zaa.go (Zaz (k) rfl rfl (rfl) (getm hk1) Tryz.underlying28 rfl sz3 rfl) (Zaa.go (Zat rfl rfl on3 rfl) (goMv rfl rfl (Zaa.go (ZbF rfl rfl rfl) (Zac (ZaH rfl (fun h17 => ?_) (fun h17 => ?_)))))))))
    · refine Zae (Zab (goAs rfl rfl (Zac (Zao ?_))));exact ⟨_, [], [], Zam rfl, rfl, rfl, retT (by rw [← h17]; exact List.getElem_mem hk1), rfl⟩
    · refine Zar (Zab (goMv rfl rfl (Zaa.go (ZaF rfl rfl (wrapS (k + 1) (by omega)) rfl) (goAs rfl rfl (Zac ?_)))));exact ⟨k + 1, ⟨by show k + 1 ≤ _; omega, not_mem_take_succ hk1 hk (fun e => h17 e.symm)⟩, by show l.length - (k + 1) < l.length - k; omega, ⟨rfl, rfl, fun _ _ => Has.get (l := [(0, _), (1, _), (5, _)]) ⟨rfl, rfl, rfl, trivial⟩⟩⟩
  · refine ZaR (Zae (Zab (goAs rfl rfl (Zac (Zao ?_)))));exact ⟨_, [], [], Zam rfl, rfl, rfl, retF (mem_of_take (by have h := h9; omega) hk), rfl⟩
theorem PC.le {γ : Type} {c : γ → γ → Int} (h : PC c) {x y z : γ} (h1 : c x y ≤ 0) (h2 : c y z ≤ 0) : c x z ≤ 0 := by
  by_cases e1 : c x y = 0
  · rw [h.eqv x y z e1]; exact h2
  · by_cases e2 : c y z = 0
    · have a1 := h.anti y z;have e3 : c z y = 0 := by omega
      have a2 := h.eqv z y x e3;have a3 := h.anti z x;have a4 := h.anti y x;omega
    · have := h.trans x y z (by omega) (by omega); omega
theorem rsc_one {γ : Type} (f : γ → Rsc) {l m ys : List γ} (hn : (l.map f).Nodup) (hm : m.Perm l) (hms : m.Pairwise fun a b => ¬ cmpR (f b) (f a) < 0) (h1 : ys.Perm l) (h2 : ys.Pairwise fun a b => ¬ cmpR (f b) (f a) < 0) : ys = m := by
  have st : ∀ {k : List γ}, (k.map f).Nodup → (k.Pairwise fun a b => ¬ cmpR (f b) (f a) < 0) → k.Pairwise fun a b => cmpR (f a) (f b) < 0 := fun {k} hn h => by
    rw [List.Nodup, List.pairwise_map] at hn;refine (h.and hn).imp fun {a b} ⟨g1, g2⟩ => ?_;have h1 := Zb4.anti (f a) (f b);have h2 : cmpR (f a) (f b) ≠ 0 := fun e => g2 (cmpR_zero.1 e);omega
  exact strict_one (R := fun a b => cmpR (f a) (f b) < 0) (fun x => by rw [Zb4.refl]; omega) (fun x y z => Zb4.trans _ _ _) (st ((h1.map f).nodup_iff.2 hn) h2) (st ((hm.map f).nodup_iff.2 hn) hms) fun x => by rw [h1.mem_iff, hm.mem_iff]
theorem sortX_sorted (rs : List Rsc) : (sortX rs).Pairwise fun a b => ¬ cfI rs b a < 0 := by
  have := List.pairwise_mergeSort (le := fun i j => decide (cfI rs i j ≤ 0)) (fun a b c h1 h2 => ?_) (fun a b => ?_) (List.range rs.length)
  · refine List.Pairwise.imp (fun {a b} h => ?_) this;have h1 := (Zb8 rs).anti a b;have h2 : cfI rs a b ≤ 0 := by simpa using h
    omega
  · have h1' : cfI rs a b ≤ 0 := by simpa using h1
    have h2' : cfI rs b c ≤ 0 := by simpa using h2
    have : cfI rs a c ≤ 0 := by
      by_cases e1 : cfI rs a b = 0
      · rw [(Zb8 rs).eqv a b c e1]; exact h2'
      · by_cases e2 : cfI rs b c = 0
        · have a1 := (Zb8 rs).anti b c;have e3 := (Zb8 rs).eqv c b a (by omega);have a2 := (Zb8 rs).anti a c;have a3 := (Zb8 rs).anti a b;omega
        · have := (Zb8 rs).trans a b c (by omega) (by omega); omega
    simpa using this
  · have h1 := (Zb8 rs).anti a b
    by_cases h : cfI rs a b ≤ 0
    · simp [h]
    · have : cfI rs b a ≤ 0 := by omega
      simp [this]
theorem rosS_perm (p : Prb) : (rosS p).Perm p.ro := by
  unfold rosS;refine ((ZbU (p.ro.map Roo.r)).map _).trans (List.Perm.of_eq ?_);rw [List.length_map]
  apply List.ext_getElem (by simp)
  intro i h1 h2;simp only [List.getElem_map, List.getElem_range];exact ZaL roo0 (by simpa using h2)
theorem rosS_sorted (p : Prb) : (rosS p).Pairwise fun a b => ¬ cmpR b.r a.r < 0 := by
  unfold rosS;rw [List.pairwise_map];refine List.Pairwise.imp_of_mem (fun {a b} ha hb h => ?_) (sortX_sorted (p.ro.map Roo.r));have ha' := List.mem_range.1 ((ZbU (p.ro.map Roo.r)).mem_iff.1 ha);have hb' := List.mem_range.1 ((ZbU (p.ro.map Roo.r)).mem_iff.1 hb);unfold cfI at h;rw [rs_getD (by simpa using hb'), rs_getD (by simpa using ha')] at h;exact h
theorem rosS_oneN {p : Prb} (hp : (p.ro.map Roo.r).Nodup) {ys : List Roo} (h1 : ys.Perm p.ro) (h2 : ys.Pairwise fun a b => ¬ cmpR b.r a.r < 0) : ys = rosS p :=
  rsc_one Roo.r (l := p.ro) hp (rosS_perm p) (rosS_sorted p) h1 h2
theorem rosS_one {p : Prb} (hp : prbE p = 0) {ys : List Roo} (h1 : ys.Perm p.ro) (h2 : ys.Pairwise fun a b => ¬ cmpR b.r a.r < 0) : ys = rosS p := rosS_oneN (roos_nodup hp) h1 h2
def largeS (p : Prb) : List Int := onIds (ordP p) (explS p).2 (ordP p).length
theorem largest_ok (p : Prb) (hf : FewP p) (hE : prbE p = 0) : PCalls Tryz.prog 15 [.d (prbD p)] (.tup [.sl none ((largeS p).map intD), intD 0]) := by
  have hx := explain_ok p hf hE;refine ZaG Tryz.func15 rfl rfl Tryz.ntmps15 rfl rfl rfl fun F hF => (Zae (Zab (Zaj.go (Za0 1 rfl rfl rfl rfl rfl rfl rfl) (goAs rfl rfl (goAs rfl rfl (Zac (Zae (Zab ?_))))))));refine Zaa.go (Zav rfl rfl rw35 rfl rfl rfl) (Zaa.go (Zax (hx) rfl rfl) (goMv rfl rfl (Zaa.go (Za3 rfl rfl rfl) (Zaa.go (Za3 rfl rfl rfl) (Zaa.go (Za3 rfl rfl rfl) (goAs rfl rfl (goAs rfl rfl (goAs rfl rfl ?_))))))));refine Zac (Zae (Zab (goMv rfl rfl (goMv rfl rfl (goAs rfl rfl (goAs rfl rfl (Zac (Zao ?_))))))));exact ⟨_, [], [], Zam rfl, rfl, rfl, rfl, rfl⟩
def without (l : List Int) (x : Int) : List Int := l.filter fun y => decide (y ≠ x)
def overL (its : List Itm) (x : Roo) (l : List Int) : Int := max x.n 0 + ((its.filter fun i => decide (i.id ∈ l)).map fun i => dltE i x.r).sum
theorem dltE_bnd (i : Itm) (r : Rsc) : -1000000000000000 ≤ dltE i r ∧ dltE i r ≤ 1000000000000000 := by
  unfold dltE
  split
  · rename_i h
    have := bnd_sum h.1 r
    simpa [Mx] using this
  · omega
def blkR (its : List Itm) (l : List Int) (id : Int) (x : Roo) : Option Exc := if id ∈ qIds its x.r then (((qIds its x.r).takeWhile fun a => decide (a ≠ id)).find? fun a => decide (a ∉ l)).map fun a => ⟨id, 1, x.r, a⟩ else none
def blockR (p : Prb) (l : List Int) (id : Int) : Option Exc := match (rosS p).findSome? (blkR (sortO p.it) l id) with
  | some e => some e
  | none => ((itmOf p id).af.find? fun a => decide (a ∉ l)).map fun a => ⟨id, 2, rscZ, a⟩
theorem tw_take {α : Type} {p : α → Bool} : ∀ {l : List α} {m : Nat} (hm : m < l.length), (∀ a ∈ l.take m, p a = true) → p l[m] = false → l.takeWhile p = l.take m
  | a :: l, 0, _, _, h => by simp at h; simp [h]
  | a :: l, m + 1, hm, h0, h => by
    have h1 : p a = true := h0 a (by simp);have ih := tw_take (l := l) (m := m) (by simpa using hm) (fun x hx => h0 x (by simp [hx])) (by simpa using h);rw [List.takeWhile_cons, h1, List.take_succ_cons, ← ih]; rfl
def overX (its its0 : List Itm) (l : List Int) (x : Roo) : Option Exc := if overL its0 x l < 0 then ((qIds its x.r).reverse.find? fun a => decide (a ∈ l)).map fun a => ⟨a, 0, x.r, -1⟩ else none
def nextR (p : Prb) (l : List Int) : Option Exc := match l.findSome? (blockR p l) with
  | some e => some e
  | none => (rosS p).findSome? (overX (sortO p.it) p.it l)
theorem blockR_id {p : Prb} {l : List Int} {id : Int} {e : Exc} (h : blockR p l id = some e) : e.id = id := by
  unfold blockR at h
  split at h
  · rename_i e' h1
    injection h with h; subst h
    obtain ⟨x, _, h2⟩ := List.exists_of_findSome?_eq_some h1;unfold blkR at h2
    split at h2
    · obtain ⟨a, _, rfl⟩ := Option.map_eq_some_iff.1 h2; rfl
    · cases h2
  · obtain ⟨a, _, rfl⟩ := Option.map_eq_some_iff.1 h; rfl
theorem find_congr {α : Type} {p q : α → Bool} : ∀ {l : List α}, (∀ x ∈ l, p x = q x) → l.find? p = l.find? q
  | [], _ => rfl
  | a :: l, h => by
    rw [List.find?_cons, List.find?_cons, h a (List.mem_cons_self ..), find_congr fun x hx => h x (List.mem_cons_of_mem _ hx)]
theorem fs_congr {α β : Type} {f g : α → Option β} : ∀ {l : List α}, (∀ x ∈ l, f x = g x) → l.findSome? f = l.findSome? g
  | [], _ => rfl
  | a :: l, h => by
    rw [List.findSome?_cons, List.findSome?_cons, h a (List.mem_cons_self ..), fs_congr fun x hx => h x (List.mem_cons_of_mem _ hx)]
theorem fs_filter {α β : Type} {f : α → Option β} {p : α → Bool} : ∀ {l : List α}, (∀ x ∈ l, p x = false → f x = none) → (l.filter p).findSome? f = l.findSome? f
  | [], _ => rfl
  | a :: l, h => by
    have ih := fs_filter (f := f) (p := p) (l := l) fun x hx => h x (List.mem_cons_of_mem _ hx);rw [List.filter_cons]
    cases hp : p a with
    | true => rw [if_pos rfl, List.findSome?_cons, List.findSome?_cons, ih]
    | false => rw [if_neg (by simp), ih, List.findSome?_cons, h a (List.mem_cons_self ..) hp]
theorem find_map_fs {α β γ : Type} {g : α → β} {p : β → Bool} {h : β → γ} : ∀ {l : List α}, ((l.map g).find? p).map h = l.findSome? fun x => if p (g x) = true then some (h (g x)) else none
  | [] => rfl
  | a :: l => by
    rw [List.map_cons, List.find?_cons, List.findSome?_cons]
    cases hp : p (g a) with
    | true => rw [if_pos rfl]; rfl
    | false => rw [if_neg (by simp), ← find_map_fs (l := l)]
theorem amt_dlt {x : Itm} (h : checkE x = 0) {r : Rsc} (hr : validE r = 0) : amt (dltS x) r = dltE x r := by
  have h1 : dltS x = dltC (ctr x) := if_pos h;have h2 : dltE x r = ctrSum (ctr x) r := if_pos ⟨h, hr⟩;rw [h1, h2]
  by_cases h0 : ctrSum (ctr x) r = 0
  · rw [h0];refine mget_not fun hm => ?_;obtain ⟨d, hd, e⟩ := List.mem_map.1 hm;obtain ⟨h3, h4⟩ := (dltC_mem _ _).1 hd;have h5 := (sumL_mem (ctr x) d.1 d.2).1 h3;rw [e, h0] at h5;exact h4 h5.2
  · refine Zcl (by rw [← h1]; exact dltS_nodup x) ((dltC_mem _ _).2 ⟨(sumL_mem _ _ _).2 ⟨?_, rfl⟩, h0⟩)
    by_cases hm : r ∈ (ctr x).map Prod.fst
    · exact hm
    · exact absurd (ctrSum_none hm) h0
theorem rooms_valid30 {l : List Roo} (h : roomsE l = 0) : ∀ x ∈ l, validE x.r = 0 := fun x hx => by
  have h0 := ZbA.1 h;obtain ⟨j, hj, rfl⟩ := List.getElem_of_mem hx;have := h0 j (List.mem_range.2 hj);unfold rErr at this;rw [ZaL roo0 hj] at this
  split at this
  · contradiction
  · rename_i hv
    exact Classical.byContradiction fun h => hv h
theorem items_valid30 {l : List Itm} (h : itemsE l = 0) : ∀ x ∈ l, checkE x = 0 := fun x hx => by
  have h0 := ZbA.1 h;obtain ⟨j, hj, rfl⟩ := List.getElem_of_mem hx;have := h0 j (List.mem_range.2 hj);unfold iErr at this;rw [ZaL itm0 hj] at this
  split at this
  · contradiction
  · rename_i hv
    exact Classical.byContradiction fun h => hv h
theorem q_ids {its : List Itm} (hv : ∀ x ∈ its, checkE x = 0) {r : Rsc} (hr : validE r = 0) : qIds its r = (negQ (its.map dltS) r).map fun i => (its.getD i itm0).id := by
  unfold qIds negQ
  have e : its = (List.range its.length).map fun i => its.getD i itm0 := by
    apply List.ext_getElem (by simp)
    intro i h1 h2;simp only [List.getElem_map, List.getElem_range];rw [ZaL itm0 h1]
  conv => lhs; rw [e]
  rw [List.filter_map, List.map_map, List.length_map]
  congr 1
  refine List.filter_congr fun i hi => ?_;have hi' := List.mem_range.1 hi;show decide (dltE (its.getD i itm0) r < 0) = _;rw [ZaL [] (by simpa using hi'), List.getElem_map, ZaL itm0 hi', amt_dlt (hv _ (List.getElem_mem hi')) hr]
theorem on_mem {its : List Itm} (hn : (its.map Itm.id).Nodup) (on : Nat → Bool) {i : Nat} (hi : i < its.length) : (its.getD i itm0).id ∈ onIds its on its.length ↔ on i = true := by
  unfold onIds;rw [List.mem_map]
  constructor
  · rintro ⟨j, hj, e⟩;obtain ⟨h1, h2⟩ := List.mem_filter.1 hj;have hj' := List.mem_range.1 h1;rw [ZaL itm0 hi, ZaL itm0 hj'] at e
    have : j = i := by
      have h3 : (its.map Itm.id)[j]'(by simpa using hj') = (its.map Itm.id)[i]'(by simpa using hi) := by
        rw [List.getElem_map, List.getElem_map]; exact e
      exact (List.getElem_inj hn).1 h3
    rw [← this]; exact h2
  · intro h;exact ⟨i, List.mem_filter.2 ⟨List.mem_range.2 hi, h⟩, rfl⟩
theorem psum {l m : List Int} (h : l.Perm m) : l.sum = m.sum := by
  induction h with
  | nil => rfl
  | cons x _ ih => rw [List.sum_cons, List.sum_cons, ih]
  | swap x y l => simp only [List.sum_cons]; omega
  | trans _ _ h1 h2 => rw [h1, h2]
theorem sum_flt {α : Type} {p : α → Bool} {f : α → Int} : ∀ {l : List α}, ((l.filter p).map f).sum = (l.map fun i => if p i = true then f i else 0).sum
  | [] => rfl
  | a :: l => by
    rw [List.filter_cons, List.map_cons, List.sum_cons, ← sum_flt (l := l)]
    cases hp : p a with
    | true => rw [if_pos rfl, if_pos rfl, List.map_cons, List.sum_cons]
    | false => rw [if_neg (by simp), if_neg (by simp), Int.zero_add]
theorem S_getN {ros : List Roo} {its : List Itm} {on : Nat → Bool} {i : Nat} (h : i < its.length) : (netS ros its on).nd.getD i nd0 = ndS (ros.map Roo.r) its on i := by
  show ((List.range its.length).map _).getD i nd0 = _;rw [ZaL nd0 (by simpa using h), List.getElem_map, List.getElem_range]
theorem negQ_lt {ds : List (List (Rsc × Int))} {r : Rsc} {i : Nat} (h : i ∈ negQ ds r) : i < ds.length := List.mem_range.1 (List.mem_filter.1 h).1
theorem its_range (its : List Itm) : its = (List.range its.length).map fun i => its.getD i itm0 := by
  apply List.ext_getElem (by simp)
  intro i h1 h2;simp only [List.getElem_map, List.getElem_range];rw [ZaL itm0 h1]
structure PV (p : Prb) (ros : List Roo) (its : List Itm) : Prop where
  e : prbE p = 0
  f : FewP p
  s : SmO ros its
  hr : rosS p = ros
  hi : sortO p.it = its
  v : ∀ x ∈ its, checkE x = 0
  w : ∀ x ∈ ros, validE x.r = 0
  up : ros.Pairwise fun a b => cmpR a.r b.r < 0
theorem pv_of {p : Prb} (hE : prbE p = 0) (hf : FewP p) : PV p (rosS p) (sortO p.it) := by
  have h1 : ordP p = sortO p.it := if_pos hE;have hs := sml_P hf hE;rw [h1] at hs;refine ⟨hE, hf, hs, rfl, rfl, fun x hx => items_valid30 (ZbC hE).2.1 x ((Zbq p.it).mem_iff.1 hx), fun x hx => rooms_valid30 (ZbC hE).1 x ((rosS_perm p).mem_iff.1 hx), ?_⟩;have hn := hs.r;rw [List.Nodup, List.pairwise_map] at hn;refine ((rosS_sorted p).and hn).imp fun {a b} ⟨g1, g2⟩ => ?_;have h1 := Zb4.anti a.r b.r;have h2 : cmpR a.r b.r ≠ 0 := fun e => g2 (cmpR_zero.1 e);omega
theorem over_sum {p : Prb} {ros : List Roo} {its : List Itm} (h : PV p ros its) (on : Nat → Bool) {x : Roo} (hx : x ∈ ros) : overL p.it x (onIds its on its.length) = max x.n 0 + sumS (its.map dltS) on x.r := by
  unfold overL
  congr 1
  have hp : p.it.Perm its := by rw [← h.hi]; exact (Zbq p.it).symm
  rw [psum ((hp.filter _).map _)]
  obtain ⟨l, hl⟩ : ∃ l, onIds its on its.length = l := ⟨_, rfl⟩
  rw [hl]
  have e : ((its.filter fun i => decide (i.id ∈ l)).map fun i => dltE i x.r).sum = ((List.range its.length).map fun i => if decide ((its.getD i itm0).id ∈ l) = true then dltE (its.getD i itm0) x.r else 0).sum := by
    conv => lhs; rw [its_range its]
    rw [List.filter_map, List.map_map, sum_flt]; rfl
  have hlen : (its.map dltS).length = its.length := by simp
  rw [e];unfold sumS;rw [hlen]
  congr 1
  refine List.map_congr_left fun i hi => ?_;have hi' := List.mem_range.1 hi;have hon := on_mem h.s.i on hi';rw [hl] at hon;have hv := amt_dlt (h.v (its.getD i itm0) (by rw [ZaL itm0 hi']; exact List.getElem_mem hi')) (h.w x hx);have hg : (its.map dltS).getD i [] = dltS (its.getD i itm0) := by rw [ZaL [] (by simpa using hi'), ZaL itm0 hi', List.getElem_map]
  rw [hg, hv]
  by_cases ho : on i = true
  · rw [if_pos ho, if_pos (decide_eq_true (hon.2 ho))]
  · rw [if_neg ho, if_neg (by simpa using fun h => ho (hon.1 h))]
theorem over_eq {p : Prb} {ros : List Roo} {its : List Itm} (h : PV p ros its) (on : Nat → Bool) {x : Roo} (hx : x ∈ ros) : overX its p.it (onIds its on its.length) x = poX (netS ros its on) (poS (its.map dltS) on x) := by
  unfold overX poX;rw [over_sum h on hx]
  have hov : (ovP (poS (its.map dltS) on x) (poS (its.map dltS) on x).sum = true) ↔ max x.n 0 + sumS (its.map dltS) on x.r < 0 := by
    unfold ovP aftP poS;rw [decide_eq_true_eq];dsimp only;have : (0 : Int) ≤ max x.n 0 := Int.le_max_right _ _;omega
  by_cases hc : max x.n 0 + sumS (its.map dltS) on x.r < 0
  · rw [if_pos hc, if_pos (hov.2 hc), q_ids h.v (h.w x hx), ← List.map_reverse, List.find?_map];show Option.map _ (Option.map _ _) = Option.map _ ((negQ (its.map dltS) x.r).reverse.find? _)
    have e : (negQ (its.map dltS) x.r).reverse.find? ((fun a => decide (a ∈ onIds its on its.length)) ∘ fun i => (its.getD i itm0).id) = (negQ (its.map dltS) x.r).reverse.find? (onN (netS ros its on)) := find_congr fun i hi => by
      have hl := negQ_lt (List.mem_reverse.1 hi);rw [List.length_map] at hl;show decide ((its.getD i itm0).id ∈ _) = onN _ i;unfold onN;rw [S_getN hl];show _ = on i;have := on_mem h.s.i on hl
      cases ho : on i with
      | true => exact decide_eq_true (this.2 ho)
      | false => exact decide_eq_false fun h => by rw [this.1 h] at ho; cases ho
    rw [e]
    cases hf : (negQ (its.map dltS) x.r).reverse.find? (onN (netS ros its on)) with
    | none => rfl
    | some i =>
      have hl := negQ_lt (List.mem_reverse.1 (List.mem_of_find?_eq_some hf));rw [List.length_map] at hl;show some _ = some _
      congr 1
      have hg : (netS ros its on).nd.getD i nd0 = ndS (ros.map Roo.r) its on i := S_getN hl;show Exc.mk (its.getD i itm0).id 0 x.r (-1) = Exc.mk ((netS ros its on).nd.getD i nd0).it.id 0 x.r (-1);rw [hg]; rfl
  · rw [if_neg hc, if_neg fun h => hc (hov.1 h)]
theorem find_idx {α : Type} (p : α → Bool) : ∀ (A : List α), A.find? p = A[A.findIdx p]?
  | [] => rfl
  | a :: A => by
    rw [List.find?_cons, List.findIdx_cons]
    cases hp : p a with
    | true => rfl
    | false => rw [find_idx p A]; rfl
theorem dlt_ris (X : Itm) : (dltS X).Pairwise fun a b => cmpR a.1 b.1 < 0 := by
  unfold dltS
  split
  · exact dltC_ris (ctr X)
  · exact List.Pairwise.nil
theorem pl_eq {p : Prb} {ros : List Roo} {its : List Itm} (h : PV p ros its) (ds : List (List (Rsc × Int))) (X : Itm) : plK (ros.map Roo.r) ds (dltS X) = (ros.filter fun x => decide (amt (dltS X) x.r < 0)).map fun x => ((ros.map Roo.r).idxOf x.r, (negQ ds x.r).length) := by
  have key : ((dltS X).filter fun d => decide (d.1 ∈ ros.map Roo.r) && decide (d.2 < 0)).map Prod.fst = (ros.filter fun x => decide (amt (dltS X) x.r < 0)).map Roo.r := by
    refine strict_one (R := fun a b => cmpR a b < 0) (fun x => by rw [Zb4.refl]; omega) (fun x y z => Zb4.trans x y z) ?_ ?_ fun r => ?_
    · rw [List.pairwise_map]; exact List.Pairwise.filter _ (dlt_ris X)
    · rw [List.pairwise_map]; exact List.Pairwise.filter _ h.up
    · constructor
      · intro hr;obtain ⟨d, hd, rfl⟩ := List.mem_map.1 hr;obtain ⟨h1, h2⟩ := List.mem_filter.1 hd;rw [Bool.and_eq_true, decide_eq_true_eq, decide_eq_true_eq] at h2;obtain ⟨x, hx, e⟩ := List.mem_map.1 h2.1;refine List.mem_map.2 ⟨x, List.mem_filter.2 ⟨hx, ?_⟩, e⟩;have : amt (dltS X) d.1 = d.2 := Zcl (dltS_nodup X) h1;rw [e, this]; exact decide_eq_true h2.2
      · intro hr;obtain ⟨x, hx, rfl⟩ := List.mem_map.1 hr;obtain ⟨h1, h2⟩ := List.mem_filter.1 hx;have h2 := of_decide_eq_true h2
        have hk : x.r ∈ (dltS X).map Prod.fst := Classical.byContradiction fun hn => by
          have : amt (dltS X) x.r = 0 := mget_not hn;omega
        obtain ⟨d, hd, e⟩ := List.mem_map.1 hk;have : amt (dltS X) d.1 = d.2 := Zcl (dltS_nodup X) hd;rw [e] at this;refine List.mem_map.2 ⟨d, List.mem_filter.2 ⟨hd, ?_⟩, e⟩;rw [Bool.and_eq_true, decide_eq_true_eq, decide_eq_true_eq];exact ⟨by rw [e]; exact List.mem_map.2 ⟨x, h1, rfl⟩, by omega⟩
  have e1 : plK (ros.map Roo.r) ds (dltS X) = (((dltS X).filter fun d => decide (d.1 ∈ ros.map Roo.r) && decide (d.2 < 0)).map Prod.fst).map fun r => ((ros.map Roo.r).idxOf r, (negQ ds r).length) := by
    unfold plK; rw [List.map_map]; rfl
  rw [e1, key, List.map_map]; rfl
theorem po_at {p : Prb} {ros : List Roo} {its : List Itm} (h : PV p ros its) (on : Nat → Bool) {x : Roo} (hx : x ∈ ros) : (netS ros its on).po.getD ((ros.map Roo.r).idxOf x.r) po0 = poS (its.map dltS) on x := by
  obtain ⟨j, hj, rfl⟩ := List.getElem_of_mem hx;have hj' : j < (ros.map Roo.r).length := by simpa using hj
  have e : (ros.map Roo.r).idxOf ros[j].r = j := by
    have := idx_nodup h.s.r hj';rw [List.getElem_map] at this; exact this
  rw [e];show (ros.map _).getD j po0 = _;rw [ZaL po0 (by simpa using hj), List.getElem_map]
theorem id_inj {its : List Itm} (hn : (its.map Itm.id).Nodup) {i j : Nat} (hi : i < its.length) (hj : j < its.length) (h : (its.getD i itm0).id = (its.getD j itm0).id) : i = j := by
  rw [ZaL itm0 hi, ZaL itm0 hj] at h
  have h3 : (its.map Itm.id)[i]'(by simpa using hi) = (its.map Itm.id)[j]'(by simpa using hj) := by
    rw [List.getElem_map, List.getElem_map]; exact h
  exact (List.getElem_inj hn).1 h3
theorem blkR_eq {p : Prb} {ros : List Roo} {its : List Itm} (h : PV p ros its) (on : Nat → Bool) {i : Nat} (hi : i < its.length) {x : Roo} (hx : x ∈ ros) :
    blkR its (onIds its on its.length) (its.getD i itm0).id x = if amt (dltS (its.getD i itm0)) x.r < 0 then (if badP (netS ros its on) ((ros.map Roo.r).idxOf x.r, (negQ ((its.map dltS).take i) x.r).length) = true then some (excQ (netS ros its on) (ndS (ros.map Roo.r) its on i) ((ros.map Roo.r).idxOf x.r, (negQ ((its.map dltS).take i) x.r).length)) else none) else none := by
  have hdi : i < (its.map dltS).length := by simpa using hi
  have hg : (its.map dltS).getD i [] = dltS (its.getD i itm0) := by rw [ZaL [] hdi, ZaL itm0 hi, List.getElem_map]
  have hq := q_ids h.v (h.w x hx);obtain ⟨B, c1, c2, c3⟩ := negQ_cut hdi x.r;rw [hg] at c1
  have hin : (its.getD i itm0).id ∈ qIds its x.r ↔ amt (dltS (its.getD i itm0)) x.r < 0 := by
    rw [hq, List.mem_map]
    constructor
    · rintro ⟨j, hj, e⟩;have hjl := negQ_lt hj;rw [List.length_map] at hjl;have := id_inj h.s.i hjl hi e;subst this;have := (List.mem_filter.1 hj).2;rw [hg] at this; exact of_decide_eq_true this
    · intro ha;refine ⟨i, ?_, rfl⟩;rw [c1, if_pos ha]; simp
  unfold blkR
  by_cases ha : amt (dltS (its.getD i itm0)) x.r < 0
  · rw [if_pos (hin.2 ha), if_pos ha];rw [if_pos ha] at c1
    obtain ⟨A, hA⟩ : ∃ A, negQ ((its.map dltS).take i) x.r = A := ⟨_, rfl⟩
    rw [hA] at c1 c2 ⊢
    have hQ : qIds its x.r = A.map (fun j => (its.getD j itm0).id) ++ ((its.getD i itm0).id :: B.map fun j => (its.getD j itm0).id) := by
      rw [hq, c1, List.map_append, List.singleton_append, List.map_cons]
    have hAl : (A.map fun j => (its.getD j itm0).id).length = A.length := List.length_map _;have hlt : A.length < (qIds its x.r).length := by rw [hQ, List.length_append, hAl]; simp
    have htk : (qIds its x.r).take A.length = A.map fun j => (its.getD j itm0).id := by rw [hQ, ← hAl, List.take_left']; rfl
    have hat : (qIds its x.r)[A.length] = (its.getD i itm0).id := by
      have : (qIds its x.r)[A.length]? = some (its.getD i itm0).id := by
        rw [hQ, List.getElem?_append_right (by omega), hAl, Nat.sub_self]; rfl
      rw [List.getElem?_eq_getElem hlt] at this; exact Option.some.inj this
    rw [tw_take hlt (fun a ha => by
      rw [htk] at ha;obtain ⟨j, hj, rfl⟩ := List.mem_map.1 ha;have := c2 j hj
      exact decide_eq_true fun e => by have := id_inj h.s.i (by omega) hi e; omega) (by rw [hat]; simp), htk, List.find?_map]
    have e1 : A.find? ((fun a => decide (a ∉ onIds its on its.length)) ∘ fun j => (its.getD j itm0).id) = A.find? fun j => !on j := find_congr fun j hj => by
      have hjl : j < its.length := by have := c2 j hj; omega
      have := on_mem h.s.i on hjl;show decide ((its.getD j itm0).id ∉ _) = !on j
      cases ho : on j with
      | true => exact decide_eq_false fun hn => hn (this.2 ho)
      | false => exact decide_eq_true fun hn => by rw [this.1 hn] at ho; cases ho
    rw [e1, find_idx]
    have hmi : ((netS ros its on).po.getD ((ros.map Roo.r).idxOf x.r) po0).mi = if A.findIdx (fun j => !on j) < A.length then A.findIdx fun j => !on j else (([i] : List Nat) ++ B).findIdx (fun j => !on j) + A.length := by
      rw [po_at h on hx];show miS on (negQ (its.map dltS) x.r) = _;unfold miS;rw [c1, fidx_app]
    have hpq : ((netS ros its on).po.getD ((ros.map Roo.r).idxOf x.r) po0).q = negQ (its.map dltS) x.r := by rw [po_at h on hx]; rfl
    have hpr : ((netS ros its on).po.getD ((ros.map Roo.r).idxOf x.r) po0).r = x.r := by rw [po_at h on hx]; rfl
    unfold badP excQ;dsimp only;rw [hmi, hpq, hpr]
    by_cases hm : A.findIdx (fun j => !on j) < A.length
    · rw [if_pos hm, if_pos (decide_eq_true hm), List.getElem?_eq_getElem hm];have hjm := List.getElem_mem hm;have hjl : A[A.findIdx fun j => !on j] < its.length := by have := c2 _ hjm; omega
      have e2 : (negQ (its.map dltS) x.r).getD (A.findIdx fun j => !on j) 0 = A[A.findIdx fun j => !on j] := by
        rw [c1, List.getD_eq_getElem?_getD, List.getElem?_append_left hm, List.getElem?_eq_getElem hm]; rfl
      rw [e2, S_getN hjl]; rfl
    · rw [if_neg hm, if_neg (by simp), List.getElem?_eq_none (by omega)]; rfl
  · rw [if_neg (fun hh => ha (hin.1 hh)), if_neg ha]
theorem block_eq {p : Prb} {ros : List Roo} {its : List Itm} (h : PV p ros its) (on : Nat → Bool) {i : Nat} (hi : i < its.length) : blockR p (onIds its on its.length) (its.getD i itm0).id = inadm (netS ros its on) (ndS (ros.map Roo.r) its on i) := by
  have hXm : its.getD i itm0 ∈ its := by rw [ZaL itm0 hi]; exact List.getElem_mem hi
  have hXp : its.getD i itm0 ∈ p.it := by rw [← h.hi] at hXm; rw [← h.hi]; exact (Zbq p.it).mem_iff.1 hXm
  have e1 : ros.findSome? (blkR its (onIds its on its.length) (its.getD i itm0).id) = ((plK (ros.map Roo.r) ((its.map dltS).take i) (dltS (its.getD i itm0))).find? (badP (netS ros its on))).map (excQ (netS ros its on) (ndS (ros.map Roo.r) its on i)) := by
    rw [pl_eq h, find_map_fs, ← fs_filter (p := fun x => decide (amt (dltS (its.getD i itm0)) x.r < 0)) (fun x hx hp => by rw [blkR_eq h on hi hx, if_neg (of_decide_eq_false hp)])];refine fs_congr fun x hx => ?_;obtain ⟨h1, h2⟩ := List.mem_filter.1 hx;rw [blkR_eq h on hi h1, if_pos (of_decide_eq_true h2)]
  have e2 : itmOf p (its.getD i itm0).id = its.getD i itm0 := by
    obtain ⟨hk, _, h2, h3⟩ := itmOf_at (p := p) (id := (its.getD i itm0).id) (List.mem_map.2 ⟨_, hXp, rfl⟩);refine ids_inj (items_ids (ZbC h.e).2.1) (by rw [h2]; exact List.getElem_mem hk) hXp h3
  have e3 : (its.getD i itm0).af.find? (fun a => decide (a ∉ onIds its on its.length)) = (its.getD i itm0).af.find? (offOf (netS ros its on)) := find_congr fun a ha => by
    have hm := h.s.a _ hXm a ha;have hj := List.idxOf_lt_length_of_mem hm;have hja := List.getElem_idxOf hj;unfold offOf;rw [S_ids]
    generalize (its.map Itm.id).idxOf a = j at hj hja ⊢
    have hj' : j < its.length := by simpa using hj
    rw [List.getElem_map] at hja;rw [S_getN hj'];show _ = !on j;have := on_mem h.s.i on hj';rw [ZaL itm0 hj', hja] at this
    cases ho : on j with
    | true => exact decide_eq_false fun hn => hn (this.2 ho)
    | false => exact decide_eq_true fun hn => by rw [this.1 hn] at ho; cases ho
  unfold blockR;rw [h.hr, h.hi, e1, e2, e3];unfold inadm
  show _ = match (plK (ros.map Roo.r) ((its.map dltS).take i) (dltS (its.getD i itm0))).find? (badP (netS ros its on)) with
    | some e => some (excQ (netS ros its on) (ndS (ros.map Roo.r) its on i) e)
    | none => match (its.getD i itm0).af.find? (offOf (netS ros its on)) with
      | some id => some ⟨(its.getD i itm0).id, 2, rscZ, id⟩
      | none => none
  cases (plK (ros.map Roo.r) ((its.map dltS).take i) (dltS (its.getD i itm0))).find? (badP (netS ros its on)) with
  | some e => rfl
  | none =>
    show ((its.getD i itm0).af.find? (offOf (netS ros its on))).map _ = _
    cases (its.getD i itm0).af.find? (offOf (netS ros its on)) <;> rfl
theorem next_eq {p : Prb} {ros : List Roo} {its : List Itm} (h : PV p ros its) (on : Nat → Bool) : nextR p (onIds its on its.length) = nextN (netS ros its on) := by
  have e1 : (onIds its on its.length).findSome? (blockR p (onIds its on its.length)) = (netS ros its on).nd.findSome? (ndX (netS ros its on)) := by
    show (((List.range its.length).filter on).map fun i => (its.getD i itm0).id).findSome? _ = ((List.range its.length).map _).findSome? _;rw [List.findSome?_map, List.findSome?_map]
    rw [← fs_filter (p := on) (l := List.range its.length) (f := ndX (netS ros its on) ∘ ndS (ros.map Roo.r) its on) (fun i _ ho => by
      show ndX _ (ndS _ _ _ i) = none;unfold ndX;rw [if_neg];show ¬ (on i = true)
      rw [ho]; simp)]
    refine fs_congr fun i hi => ?_;obtain ⟨h1, h2⟩ := List.mem_filter.1 hi;show blockR p _ (its.getD i itm0).id = ndX _ (ndS _ _ _ i);rw [block_eq h on (List.mem_range.1 h1)];unfold ndX;rw [if_pos];exact h2
  have e2 : ros.findSome? (overX its p.it (onIds its on its.length)) = (netS ros its on).po.findSome? (poX (netS ros its on)) := by
    show _ = (ros.map _).findSome? _;rw [List.findSome?_map];exact fs_congr fun x hx => over_eq h on hx
  unfold nextR nextN;rw [h.hr, h.hi, e1, e2]
  cases (netS ros its on).nd.findSome? (ndX (netS ros its on)) <;> rfl
theorem without_off {its : List Itm} (hn : (its.map Itm.id).Nodup) (on : Nat → Bool) {i : Nat} (hi : i < its.length) : without (onIds its on its.length) (its.getD i itm0).id = onIds its (setOff on i) its.length := by
  unfold without onIds;rw [List.filter_map, List.filter_filter]
  congr 1
  refine List.filter_congr fun j hj => ?_;have hj' := List.mem_range.1 hj;show (decide ((its.getD j itm0).id ≠ (its.getD i itm0).id) && on j) = setOff on i j
  by_cases e : j = i
  · subst e; rw [setOff_at]; simp
  · have hne : (its.getD j itm0).id ≠ (its.getD i itm0).id := fun h => e (id_inj hn hj' hi h);rw [setOff_ne e, decide_eq_true hne, Bool.true_and]
def FewQ (p : Prb) (n : Nat) : Prop := p.it.length ≤ n ∧ p.ro.length ≤ 30 ∧ ∀ i ∈ p.it, i.po.length ≤ 8 ∧ i.pa.length ≤ 8 ∧ i.af.length ≤ 8
instance (p : Prb) (n : Nat) : Decidable (FewQ p n) := inferInstanceAs (Decidable (_ ∧ _ ∧ ∀ i ∈ p.it, _))
theorem few_of {p : Prb} {n : Nat} (h : FewQ p n) (hn : n ≤ 30) : FewP p := ⟨by have := h.1; omega, by have := h.2.1; omega, h.2.2⟩
theorem few_p (p : Prb) (n : Nat) (hn : n ≤ 1000) : PCalls Tryz.prog 13 [.d (prbD p), .d (intD (n : Int))] (boolD (decide (FewQ p n))) := by
  refine ZaG Tryz.func13 rfl rfl Tryz.ntmps13 rfl rfl rfl fun F hF => (Zae (Zab (Zaj.go (Za0 1 rfl rfl rfl rfl rfl rfl rfl) (goAs rfl rfl (Zac (Zae ?_))))));refine Zae (Zab (Zaa.go (Zag rfl ZaY rfl rfl rfl) (Zaa.go (Zah rfl rfl rfl on23 rfl) (Zaa.go (ZaD rfl Tryz.underlying23 rfl) (goMv rfl rfl (Zaa.go (ZbN rfl rfl rfl) (goMv rfl rfl (ZaQ 11 rfl (fun h11 => ?_) (fun h11 => ?_)))))))))
  · refine Zai rfl rfl rfl rfl (Zai rfl rfl rfl rfl (Zai rfl rfl rfl rfl ?_));refine Zai rfl rfl rfl rfl (Zaa.go (Zay rfl rfl rfl rfl) (Zac (ZaU rfl rfl (Zae (Zab (goAs rfl rfl (Zac (Zao ?_))))))));exact ⟨_, [], [], Zam rfl, rfl, rfl, retF (fun h => by have h1 := h.1; have h2 := h.2.1; omega), rfl⟩
  · refine Zak rfl rfl rfl (Zaa.go (Zag rfl ZaS rfl rfl rfl) ?_);refine Zak rfl rfl rfl (Zaa.go (Zah rfl rfl rfl on22 rfl) (Zak rfl rfl rfl (Zaa.go (ZaD rfl Tryz.underlying22 rfl) (Zak rfl rfl rfl (Zaa.go (ZbN rfl rfl rfl) (Zaa.go (ZaB rfl rfl rfl rfl) (Zac (ZaH rfl (fun h16 => ?_) (fun h16 => ?_)))))))))
    · refine Zae (Zab (goAs rfl rfl (Zac (Zao ?_))));exact ⟨_, [], [], Zam rfl, rfl, rfl, retF (fun h => by have h1 := h.1; have h2 := h.2.1; omega), rfl⟩
    · refine Zar (Zae (Zae (Zab (goAs rfl rfl (Zac (Zaq (ZaP (α := Nat) (fun k => ⟨52, [(2, (.ptr 1 0 0)), (5, (.d (intD (k : Int))))], [(1, [prbB2 25 p])]⟩) (fun k => k ≤ p.it.length ∧ ∀ i ∈ p.it.take k, i.po.length ≤ 8 ∧ i.pa.length ≤ 8 ∧ i.af.length ≤ 8) (fun k => p.it.length - k) (0) (⟨Nat.zero_le _, by simp⟩) (Zau hF [1] rfl rfl ⟨rfl, rfl, trivial⟩) ?_)))))));rintro k ⟨hk0, hk⟩;refine Zae ?_;refine Zae (Zab (goMv rfl rfl (Zaa.go (Zag rfl ZaY rfl rfl rfl) (Zaa.go (Zah rfl rfl rfl on23 rfl) (Zaa.go (ZaD rfl Tryz.underlying23 rfl) (Zaa.go (ZaN rfl rfl rfl) (Zac (ZaH rfl (fun h21 => ?_) (fun h21 => ?_)))))))))
      · have hk1 : k < p.it.length := ZaO h21;refine Zar (Zae (Zaq (Zae (Zab (Zaa.go (Zag rfl ZaY rfl rfl rfl) ?_)))));refine Zaa.go (Zah rfl rfl rfl on23 rfl) (goMv rfl rfl (Zaa.go (Zaz (k) rfl rfl (rfl) (getm hk1) Tryz.underlying23 rfl sz64 rfl) (Zaa.go (Zap rfl Za4 rfl rfl rfl) (Zaa.go (Zat rfl rfl on61 rfl) (Zaa.go (ZaD rfl Tryz.underlying61 rfl) (Zaa.go (ZbN rfl rfl rfl) (goMv rfl rfl (ZaQ 32 rfl (fun h32 => ?_) (fun h32 => ?_)))))))))
        · refine Zai rfl rfl rfl rfl (Zai rfl rfl rfl rfl (Zai rfl rfl rfl rfl (Zai rfl rfl rfl rfl (Zai rfl rfl rfl rfl (Zai rfl rfl rfl rfl (Zai rfl rfl rfl rfl (Zai rfl rfl rfl rfl ?_)))))));refine Zaa.go (Zay rfl rfl rfl rfl) (goMv rfl rfl (Zai rfl rfl rfl rfl (Zai rfl rfl rfl rfl (Zai rfl rfl rfl rfl (Zai rfl rfl rfl rfl (Zai rfl rfl rfl rfl (Zai rfl rfl rfl rfl (Zai rfl rfl rfl rfl ?_))))))));refine Zai rfl rfl rfl rfl (Zaa.go (Zay rfl rfl rfl rfl) (Zac (ZaU rfl rfl (Zae (Zab (goAs rfl rfl (Zac (Zao ?_))))))));exact ⟨_, [], [], Zam rfl, rfl, rfl, retF (fun h => by have h1 := h.2.2 _ (List.getElem_mem hk1); omega), rfl⟩
        · refine Zak rfl rfl rfl ?_;refine Zaa.go (Zag rfl ZaY rfl rfl rfl) (Zak rfl rfl rfl (Zaa.go (Zah rfl rfl rfl on23 rfl) (Zak rfl rfl rfl (goMv rfl rfl (Zak rfl rfl rfl (Zaa.go (Zaz (k) rfl rfl (rfl) (getm hk1) Tryz.underlying23 rfl sz64 rfl) (Zak rfl rfl rfl (Zaa.go (Zap rfl ZaW rfl rfl rfl) ?_))))))));refine Zak rfl rfl rfl (Zaa.go (Zat rfl rfl on62 rfl) (Zak rfl rfl rfl (Zaa.go (ZaD rfl Tryz.underlying62 rfl) (Zak rfl rfl rfl (Zaa.go (ZbN rfl rfl rfl) (Zaa.go (ZaB rfl rfl rfl rfl) (goMv rfl rfl (ZaQ 42 rfl (fun h42 => ?_) (fun h42 => ?_)))))))))
          · refine Zai rfl rfl rfl rfl (Zai rfl rfl rfl rfl (Zai rfl rfl rfl rfl (Zai rfl rfl rfl rfl (Zai rfl rfl rfl rfl (Zai rfl rfl rfl rfl (Zai rfl rfl rfl rfl ?_))))));refine Zai rfl rfl rfl rfl (Zaa.go (Zay rfl rfl rfl rfl) (Zac (ZaU rfl rfl (Zae (Zab (goAs rfl rfl (Zac (Zao ?_))))))));exact ⟨_, [], [], Zam rfl, rfl, rfl, retF (fun h => by have h1 := h.2.2 _ (List.getElem_mem hk1); omega), rfl⟩
          · refine Zak rfl rfl rfl ?_;refine Zaa.go (Zag rfl ZaY rfl rfl rfl) (Zak rfl rfl rfl (Zaa.go (Zah rfl rfl rfl on23 rfl) (Zak rfl rfl rfl (goMv rfl rfl (Zak rfl rfl rfl (Zaa.go (Zaz (k) rfl rfl (rfl) (getm hk1) Tryz.underlying23 rfl sz64 rfl) (Zak rfl rfl rfl (Zaa.go (Zap rfl Zbj rfl rfl rfl) ?_))))))));refine Zak rfl rfl rfl (Zaa.go (Zat rfl rfl on28 rfl) (Zak rfl rfl rfl (Zaa.go (ZaD rfl Tryz.underlying28 rfl) (Zak rfl rfl rfl (Zaa.go (ZbN rfl rfl rfl) (Zaa.go (ZaB rfl rfl rfl rfl) (Zac (ZaH rfl (fun h51 => ?_) (fun h51 => ?_)))))))))
            · refine Zae (Zab (goAs rfl rfl (Zac (Zao ?_))));exact ⟨_, [], [], Zam rfl, rfl, rfl, retF (fun h => by have h1 := h.2.2 _ (List.getElem_mem hk1); omega), rfl⟩
            · refine Zar (Zab (goMv rfl rfl (Zaa.go (ZaF rfl rfl (wrapS (k + 1) (by omega)) rfl) (goAs rfl rfl (Zac ?_)))));exact ⟨k + 1, ⟨by show k + 1 ≤ _; omega, by rw [List.take_succ_eq_append_getElem hk1]; intro i hi; rcases List.mem_append.1 hi with hi | hi; exact hk i hi; rw [List.mem_singleton.1 hi]; omega⟩, by show p.it.length - (k + 1) < p.it.length - k; omega, Zau hF [1] rfl (rfl) ⟨rfl, rfl, trivial⟩⟩
      · refine ZaR (Zae (Zab (goAs rfl rfl (Zac (Zao ?_)))));exact ⟨_, [], [], Zam rfl, rfl, rfl, retT ⟨by omega, by omega, fun i hi => hk i (by rw [List.take_of_length_le (by have h := h21; omega)]; exact hi)⟩, rfl⟩
theorem same30_p (l m : List Int) (hl : l.length ≤ 100000) (hm : m.length ≤ 100000) : PCalls Tryz.prog 19 [.d (.sl none (l.map intD)), .d (.sl none (m.map intD))] (boolD (decide (l = m))) := by
  refine ZaG Tryz.func19 rfl rfl Tryz.ntmps19 rfl rfl rfl fun F hF => (Zae (Zab (goAs rfl rfl (Zac (Zae ?_)))));refine Zae (Zab (goMv rfl rfl (Zaa.go (ZaD rfl Tryz.underlying28 rfl) (goMv rfl rfl (Zaa.go (ZaD rfl Tryz.underlying28 rfl) (Zaa.go (Zbf rfl rfl rfl) (Zac (ZaH rfl (fun h10 => ?_) (fun h10 => ?_)))))))))
  · refine Zae (Zab (goAs rfl rfl (Zac (Zao ?_))));exact ⟨_, [], [], Zam rfl, rfl, rfl, retF (fun h => by have h1 := congrArg List.length h; have h := h10; omega), rfl⟩
  · refine Zar (Zae (Zae ?_));have hlen : l.length = m.length := by have h := h10; omega
    refine Zab (goAs rfl rfl (Zac (Zaq (ZaP (α := Nat) (fun k => ⟨26, [(0, .d (.sl none (l.map intD))), (1, .d (.sl none (m.map intD))), (5, (.d (intD (k : Int))))], []⟩) (fun k => k ≤ l.length ∧ l.take k = m.take k) (fun k => l.length - k) (0) (⟨Nat.zero_le _, by simp⟩) (Zau hF [] rfl rfl ⟨rfl, rfl, rfl, trivial⟩) ?_))));rintro k ⟨hk0, hk⟩;refine Zae (Zae (Zab (goMv rfl rfl (goMv rfl rfl (Zaa.go (ZaD rfl Tryz.underlying28 rfl) (Zaa.go (ZaN rfl rfl rfl) (Zac (ZaH rfl (fun h14 => ?_) (fun h14 => ?_)))))))))
    · have hk1 : k < l.length := ZaO h14;refine Zar (Zae (Zaq (Zae ?_)));have hk2 : k < m.length := by omega
      refine Za5 [[], [], [0, 1], [0, 1, 2], [], [], [4, 5], [4, 5, 6], [0, 1, 2, 3, 4, 5, 6, 7]] mixed rfl (dws (Zaf [0] [] rfl rfl (fun _ => Zad (ZaI rfl rfl)) (Zaf [5] [] rfl rfl (fun _ => Zad (ZaI rfl rfl)) (Zaf [17, 18] [] rfl rfl (fun _ => Zad (Zaz (k) rfl rfl (rfl) (getm hk1) Tryz.underlying28 rfl sz3 rfl)) ?_))));refine Zaf [19] [] rfl rfl (fun _ => Zad (Zat rfl rfl on3 rfl)) (Zaf [1] [] rfl rfl (fun _ => Zad (ZaI rfl rfl)) (Zaf [5] [] rfl rfl (fun _ => Zad (ZaI rfl rfl)) (Zaf [21, 22] [] rfl rfl (fun _ => Zad (Zaz (k) rfl rfl (rfl) (getm hk2) Tryz.underlying28 rfl sz3 rfl)) (Zaf [23] [] rfl rfl (fun _ => Zad (Zat rfl rfl on3 rfl)) (dwc 8 rfl rfl rfl (dw1 9 rfl rfl (Zaa.go (Zbf rfl rfl rfl) (Zac ⟨rfl, ?_⟩))))))));refine dwe (ZaH rfl (fun h25 => ?_) (fun h25 => ?_))
      · refine Zae (Zab (goAs rfl rfl (Zac (Zao ?_))));exact ⟨_, [], [], Zam rfl, rfl, rfl, retF (fun h => by subst h; exact h25 rfl), rfl⟩
      · refine Zar (Zab (goMv rfl rfl (Zaa.go (ZaF rfl rfl (wrapS (k + 1) (by omega)) rfl) (goAs rfl rfl (Zac ?_)))));exact ⟨k + 1, ⟨by show k + 1 ≤ _; omega, by rw [List.take_succ_eq_append_getElem hk1, List.take_succ_eq_append_getElem hk2, hk, Classical.not_not.1 h25]⟩, by show l.length - (k + 1) < l.length - k; omega, Zau hF [] rfl (rfl) ⟨rfl, rfl, rfl, trivial⟩⟩
    · refine ZaR (Zae (Zab (goAs rfl rfl (Zac (Zao ?_)))));exact ⟨_, [], [], Zam rfl, rfl, rfl, retT (by have h1 := hk; rw [List.take_of_length_le (by have h := h14; omega), List.take_of_length_le (by have h := h14; omega)] at h1; exact h1), rfl⟩
theorem subset30_p (l m : List Int) (hl : l.length ≤ 100000) (hm : m.length ≤ 100000) : PCalls Tryz.prog 24 [.d (.sl none (l.map intD)), .d (.sl none (m.map intD))] (boolD (decide (∀ x ∈ l, x ∈ m))) := by
  refine ZaG Tryz.func24 rfl rfl Tryz.ntmps24 rfl rfl rfl fun F hF => (Zae (Zab ?_));refine goAs rfl rfl (Zac (Zae (Zae (Zab (goAs rfl rfl (Zac (Zaq (ZaP (α := Nat) (fun k => ⟨19, [(0, .d (.sl none (l.map intD))), (1, .d (.sl none (m.map intD))), (5, (.d (intD (k : Int))))], []⟩) (fun k => k ≤ l.length ∧ ∀ x ∈ l.take k, x ∈ m) (fun k => l.length - k) (0) (⟨Nat.zero_le _, by simp⟩) (Zau hF [] rfl rfl ⟨rfl, rfl, rfl, trivial⟩) ?_))))))));rintro k ⟨hk0, hk⟩;refine Zae (Zae (Zab (goMv rfl rfl (goMv rfl rfl (Zaa.go (ZaD rfl Tryz.underlying28 rfl) (Zaa.go (ZaN rfl rfl rfl) (Zac (ZaH rfl (fun h9 => ?_) (fun h9 => ?_)))))))))
  · have hk1 : k < l.length := ZaO h9;refine Zar (Zae (Zaq (Zae (Zab ?_))));refine goMv rfl rfl (goMv rfl rfl (goMv rfl rfl (Zaa.go (Zaz (k) rfl rfl (rfl) (getm hk1) Tryz.underlying28 rfl sz3 rfl) (Zaa.go (Zat rfl rfl on3 rfl) (Zaa.go (Zax (has30_p m l[k] (by omega)) rfl rfl) (Zaa.go (Zbo rfl rfl) (Zac (ZaH rfl (fun h18 => ?_) (fun h18 => ?_)))))))))
    · refine Zae (Zab (goAs rfl rfl (Zac (Zao ?_))));exact ⟨_, [], [], Zam rfl, rfl, rfl, retF (fun h => by have h1 := h _ (List.getElem_mem hk1); exact absurd h1 (by simpa using h18)), rfl⟩
    · refine Zar (Zab (goMv rfl rfl (Zaa.go (ZaF rfl rfl (wrapS (k + 1) (by omega)) rfl) (goAs rfl rfl (Zac ?_)))));exact ⟨k + 1, ⟨by show k + 1 ≤ _; omega, by rw [List.take_succ_eq_append_getElem hk1]; intro i hi; rcases List.mem_append.1 hi with hi | hi; exact hk i hi; rw [List.mem_singleton.1 hi]; simpa using h18⟩, by show l.length - (k + 1) < l.length - k; omega, Zau hF [] rfl (rfl) ⟨rfl, rfl, rfl, trivial⟩⟩
  · refine ZaR (Zae (Zab (goAs rfl rfl (Zac (Zao ?_)))));exact ⟨_, [], [], Zam rfl, rfl, rfl, retT (fun x hx => hk x (by rw [List.take_of_length_le (by have h := h9; omega)]; exact hx)), rfl⟩
def feasR (p : Prb) (l : List Int) : Prop := (∀ id ∈ l, blockR p l id = none) ∧ ∀ x ∈ p.ro, ¬ overL p.it x l < 0
noncomputable instance (p : Prb) (l : List Int) : Decidable (feasR p l) := Classical.propDecidable _
theorem netS_ers (ros : List Roo) (its : List Itm) (on : Nat → Bool) : ersN (netS ros its on) = netS ros its on := by
  unfold ersN netS;dsimp only;rw [List.map_map, List.map_map]; rfl
theorem next_at {ros : List Roo} {its : List Itm} (hn : (its.map Itm.id).Nodup) {on : Nat → Bool} {e : Exc} (h : nextN (netS ros its on) = some e) : ∃ i, i < its.length ∧ on i = true ∧ (its.getD i itm0).id = e.id ∧ (its.map Itm.id).idxOf e.id = i := by
  obtain ⟨i, x, hx, hon, hid⟩ := next_on h;obtain ⟨hi, ho, hit⟩ := S_nd_at (netS_ers ros its on) hx;have hei : (its.getD i itm0).id = e.id := by rw [hid, hit]
  refine ⟨i, hi, by rw [← ho]; exact hon, hei, ?_⟩;have h1 := idx_nodup hn (i := i) (by simpa using hi);rw [List.getElem_map] at h1;rw [← hei, ZaL itm0 hi]; exact h1
theorem run_end {ros : List Roo} {its : List Itm} (hn : (its.map Itm.id).Nodup) : ∀ (f : Nat) (on : Nat → Bool), cntOn its.length on ≤ f → nextN (netS ros its (runS ros its f on).2) = none
  | 0, on, h => by
    show nextN (netS ros its on) = none
    cases hne : nextN (netS ros its on) with
    | none => rfl
    | some e =>
      obtain ⟨i, hi, ho, _, _⟩ := next_at hn hne;have := cntOn_off hi ho;omega
  | f + 1, on, h => by
    cases hne : nextN (netS ros its on) with
    | none => rw [run_none hne]; exact hne
    | some e =>
      obtain ⟨i, hi, ho, _, hx⟩ := next_at hn hne;have := cntOn_off hi ho;rw [run_some hne, hx];exact run_end hn f (setOff on i) (by omega)
theorem cntOn_le (n : Nat) (on : Nat → Bool) : cntOn n on ≤ n := by
  unfold cntOn;exact Nat.le_trans (List.length_filter_le _ _) (by simp)
theorem large_next {p : Prb} (hE : prbE p = 0) (hf : FewP p) : nextR p (largeS p) = none := by
  have h := pv_of hE hf;have h1 : ordP p = sortO p.it := if_pos hE;unfold largeS explS;rw [h1, next_eq h];exact run_end h.s.i _ _ (cntOn_le _ _)
theorem overL_nonneg {its : List Itm} {x : Roo} {l : List Int} (h : ∀ i ∈ its, i.id ∈ l → 0 ≤ dltE i x.r) : 0 ≤ overL its x l := by
  have h0 : (0 : Int) ≤ max x.n 0 := Int.le_max_right _ _
  have h1 : ∀ m : List Itm, (∀ i ∈ m, 0 ≤ dltE i x.r) → 0 ≤ (m.map fun i => dltE i x.r).sum := fun m => by
    induction m with
    | nil => intro _; simp
    | cons a m ih =>
      intro hm;have := hm a (List.mem_cons_self ..);have := ih fun i hi => hm i (List.mem_cons_of_mem _ hi);simp only [List.map_cons, List.sum_cons]; omega
  have := h1 (its.filter fun i => decide (i.id ∈ l)) fun i hi => by
    obtain ⟨h2, h3⟩ := List.mem_filter.1 hi;exact h i h2 (of_decide_eq_true h3)
  unfold overL; omega
theorem feas_none {p : Prb} {l : List Int} (h : nextR p l = none) : feasR p l := by
  unfold nextR at h
  cases h1 : l.findSome? (blockR p l) with
  | some e => rw [h1] at h; cases h
  | none =>
    rw [h1] at h;refine ⟨fun id hid => List.findSome?_eq_none_iff.1 h1 id hid, fun x hx ho => ?_⟩;have h2 := List.findSome?_eq_none_iff.1 h x ((rosS_perm p).mem_iff.2 hx);unfold overX at h2;rw [if_pos ho] at h2
    have h3 : (qIds (sortO p.it) x.r).reverse.find? (fun a => decide (a ∈ l)) = none := by
      cases hf : (qIds (sortO p.it) x.r).reverse.find? (fun a => decide (a ∈ l)) with
      | none => rfl
      | some a => rw [hf] at h2; cases h2
    have h4 := List.find?_eq_none.1 h3
    have := overL_nonneg (its := p.it) (x := x) (l := l) fun i hi hl => Classical.byContradiction fun hneg => by
      have hq : i.id ∈ qIds (sortO p.it) x.r := List.mem_map.2 ⟨i, List.mem_filter.2 ⟨(Zbq p.it).mem_iff.2 hi, by simpa using hneg⟩, rfl⟩;have := h4 _ (List.mem_reverse.2 hq)
      simp at this
      exact this hl
    omega
theorem large_feas {p : Prb} (hE : prbE p = 0) (hf : FewP p) : feasR p (largeS p) := feas_none (large_next hE hf)
theorem block_mono {p : Prb} {l t : List Int} {id : Int} (hs : ∀ x ∈ t, x ∈ l) (h : blockR p t id = none) : blockR p l id = none := by
  unfold blockR at h ⊢
  cases h1 : (rosS p).findSome? (blkR (sortO p.it) t id) with
  | some e => rw [h1] at h; cases h
  | none =>
    rw [h1] at h
    have h2 : (rosS p).findSome? (blkR (sortO p.it) l id) = none := findSome_no fun x hx => by
      have h3 := List.findSome?_eq_none_iff.1 h1 x hx;unfold blkR at h3 ⊢
      split
      · rename_i hq
        rw [if_pos hq] at h3
        have h4 : ((qIds (sortO p.it) x.r).takeWhile fun a => decide (a ≠ id)).find? (fun a => decide (a ∉ t)) = none := by
          cases hf : ((qIds (sortO p.it) x.r).takeWhile fun a => decide (a ≠ id)).find? (fun a => decide (a ∉ t)) with
          | none => rfl
          | some a => rw [hf] at h3; cases h3
        rw [find_none (fun a ha => by
          have := List.find?_eq_none.1 h4 a ha
          simp at this
          simpa using hs a this)]; rfl
      · rfl
    rw [h2];dsimp only at h ⊢
    have h5 : (itmOf p id).af.find? (fun a => decide (a ∉ t)) = none := by
      cases hf : (itmOf p id).af.find? (fun a => decide (a ∉ t)) with
      | none => rfl
      | some a => rw [hf] at h; cases h
    rw [find_none (fun a ha => by
      have := List.find?_eq_none.1 h5 a ha
      simp at this
      simpa using hs a this)]; rfl
theorem overL_le {x : Roo} {l t : List Int} (hs : ∀ y ∈ t, y ∈ l) : ∀ {its : List Itm}, (∀ i ∈ its, i.id ∈ l → i.id ∉ t → 0 ≤ dltE i x.r) → overL its x t ≤ overL its x l
  | [], _ => Int.le_refl _
  | a :: its, h => by
    have ih := overL_le hs (its := its) fun i hi => h i (List.mem_cons_of_mem _ hi);have ha := h a (List.mem_cons_self ..);unfold overL at ih ⊢;rw [List.filter_cons, List.filter_cons]
    by_cases h1 : a.id ∈ t
    · rw [if_pos (decide_eq_true h1), if_pos (decide_eq_true (hs _ h1))];simp only [List.map_cons, List.sum_cons]; omega
    · rw [if_neg (by simpa using h1)]
      by_cases h2 : a.id ∈ l
      · rw [if_pos (decide_eq_true h2)];have := ha h2 h1;simp only [List.map_cons, List.sum_cons]; omega
      · rw [if_neg (by simpa using h2)]; exact ih
theorem not_next {p : Prb} (hE : prbE p = 0) {l t : List Int} (ht : feasR p t) (hs : ∀ y ∈ t, y ∈ l) {e : Exc} (hn : nextR p l = some e) : e.id ∉ t := fun het => by
  unfold nextR at hn
  split at hn
  · rename_i e' h1
    injection hn with hn; subst hn
    obtain ⟨id, hid, h2⟩ := List.exists_of_findSome?_eq_some h1;have h3 := blockR_id h2;rw [h3] at het;rw [block_mono hs (ht.1 id het)] at h2; cases h2
  · obtain ⟨x, hx, h2⟩ := List.exists_of_findSome?_eq_some hn;have hxp := (rosS_perm p).mem_iff.1 hx;unfold overX at h2
    split at h2
    · rename_i ho
      obtain ⟨a, ha, rfl⟩ := Option.map_eq_some_iff.1 h2;dsimp only at het;obtain ⟨hal, u, v, huv, hu⟩ := List.find?_eq_some_iff_append.1 ha
      have hQ : qIds (sortO p.it) x.r = v.reverse ++ a :: u.reverse := by
        have := congrArg List.reverse huv;rw [List.reverse_reverse, List.reverse_append, List.reverse_cons, List.append_assoc] at this;exact this
      have hQn : (qIds (sortO p.it) x.r).Nodup := by
        have h1 : ((sortO p.it).map Itm.id).Nodup := ((Zbq p.it).map Itm.id).nodup_iff.2 (items_ids (ZbC hE).2.1);unfold qIds;exact h1.sublist ((List.filter_sublist).map Itm.id)
      have hav : a ∉ v.reverse := fun hm => by
        rw [hQ, List.nodup_append] at hQn;exact hQn.2.2 _ hm _ (List.mem_cons_self ..) rfl
      have hblk := ht.1 a het
      have hall : ∀ b ∈ v.reverse, b ∈ t := fun b hb => by
        unfold blockR at hblk
        cases h1 : (rosS p).findSome? (blkR (sortO p.it) t a) with
        | some e => rw [h1] at hblk; cases hblk
        | none =>
          have h3 := List.findSome?_eq_none_iff.1 h1 x hx;unfold blkR at h3;rw [if_pos (by rw [hQ]; simp)] at h3;have hlt : v.reverse.length < (qIds (sortO p.it) x.r).length := by rw [hQ, List.length_append]; simp
          have htk : (qIds (sortO p.it) x.r).take v.reverse.length = v.reverse := by rw [hQ, List.take_left']; rfl
          have hat : (qIds (sortO p.it) x.r)[v.reverse.length] = a := by
            have : (qIds (sortO p.it) x.r)[v.reverse.length]? = some a := by
              rw [hQ, List.getElem?_append_right (Nat.le_refl _), Nat.sub_self]; rfl
            rw [List.getElem?_eq_getElem hlt] at this; exact Option.some.inj this
          rw [tw_take hlt (fun c hc => by rw [htk] at hc; exact decide_eq_true fun e => hav (e ▸ hc)) (by rw [hat]; simp), htk] at h3
          have h4 : v.reverse.find? (fun a => decide (a ∉ t)) = none := by
            cases hf : v.reverse.find? (fun a => decide (a ∉ t)) with
            | none => rfl
            | some c => rw [hf] at h3; cases h3
          have := List.find?_eq_none.1 h4 b hb
          simpa using this
      have hle := overL_le (x := x) hs (its := p.it) fun i hi h1 h2 => Classical.byContradiction fun hneg => by
        have hq : i.id ∈ qIds (sortO p.it) x.r := List.mem_map.2 ⟨i, List.mem_filter.2 ⟨(Zbq p.it).mem_iff.2 hi, by simpa using hneg⟩, rfl⟩;rw [hQ] at hq;rcases List.mem_append.1 hq with hq | hq
        · exact h2 (hall _ hq)
        · rcases List.mem_cons.1 hq with hq | hq
          · rw [hq] at h2; exact h2 het
          · have := hu _ (List.mem_reverse.1 hq)
            simp at this
            exact this h1
      exact ht.2 x hxp (by omega)
    · cases h2
theorem large_max {p : Prb} (hE : prbE p = 0) (hf : FewP p) {t : List Int} (ht : feasR p t) (hs : ∀ y ∈ t, y ∈ p.it.map Itm.id) : ∀ y ∈ t, y ∈ largeS p := by
  have h := pv_of hE hf;have h1 : ordP p = sortO p.it := if_pos hE
  have key : ∀ (f : Nat) (on : Nat → Bool), (∀ y ∈ t, y ∈ onIds (sortO p.it) on (sortO p.it).length) → ∀ y ∈ t, y ∈ onIds (sortO p.it) (runS (rosS p) (sortO p.it) f on).2 (sortO p.it).length := by
    intro f
    induction f with
    | zero => intro on ho; exact ho
    | succ f ih =>
      intro on ho
      cases hne : nextN (netS (rosS p) (sortO p.it) on) with
      | none => rw [run_none hne]; exact ho
      | some e =>
        obtain ⟨i, hi, _, hei, hx⟩ := next_at h.s.i hne;rw [run_some hne, hx];refine ih (setOff on i) fun y hy => ?_;have hnt := not_next hE ht ho (by rw [next_eq h]; exact hne);rw [← without_off h.s.i on hi, hei];exact List.mem_filter.2 ⟨ho y hy, decide_eq_true fun e2 => hnt (e2 ▸ hy)⟩
  unfold largeS explS;rw [h1];refine key _ _ fun y hy => ?_
  have h2 : onIds (sortO p.it) (fun _ => true) (sortO p.it).length = (sortO p.it).map Itm.id := by
    conv => rhs; rw [its_range (sortO p.it)]
    unfold onIds;rw [List.map_map, List.filter_eq_self.2 (fun _ _ => rfl)]; rfl
  rw [h2];exact ((Zbq p.it).map Itm.id).mem_iff.2 (hs y hy)
def sub30 (ids : List Int) (m k : Nat) : List Int := ((List.range k).filter fun j => decide (m / 2 ^ j % 2 = 1)).map fun j => ids.getD j 0
def InU (p : Prb) (ids : List Int) (M : Nat) (x : Int) : Prop := ∃ m, m < M ∧ feasR p (sub30 ids m ids.length) ∧ x ∈ sub30 ids m ids.length
noncomputable instance (p : Prb) (ids : List Int) (M : Nat) (x : Int) : Decidable (InU p ids M x) := Classical.propDecidable _
theorem onIds_filter {its : List Itm} (hn : (its.map Itm.id).Nodup) (on : Nat → Bool) : onIds its on its.length = (its.map Itm.id).filter fun x => decide (x ∈ onIds its on its.length) := by
  obtain ⟨l, hl⟩ : ∃ l, onIds its on its.length = l := ⟨_, rfl⟩
  have h1 : its.map Itm.id = (List.range its.length).map fun i => (its.getD i itm0).id := by
    conv => lhs; rw [its_range its]
    rw [List.map_map]; rfl
  rw [h1, List.filter_map];show ((List.range its.length).filter on).map _ = _
  congr 1
  refine List.filter_congr fun i hi => ?_;have := on_mem hn on (List.mem_range.1 hi);show on i = decide ((its.getD i itm0).id ∈ onIds its on its.length)
  cases ho : on i with
  | true => exact (decide_eq_true (this.2 ho)).symm
  | false => exact (decide_eq_false fun h => by rw [this.1 h] at ho; cases ho).symm
theorem alone1_c {wb mv : Nat} {nb pb : Nat → Nat} {N : Net} {M : MF} (h : Rep wb mv nb pb N M) {i : Nat} {x : Nd} (hx : N.nd[i]? = some x) : ACalls Tryz.prog 81 [.d (pD (nb i) 0)] (HN M) fun r H' => r = .d (boolD x.on) ∧ H' = HN M := by
  have hxb := h.n i x hx;refine ZaG Tryz.func81 rfl rfl Tryz.ntmps81 rfl rfl rfl fun F hF => (Zae (Zab (goAs rfl rfl (Zac ?_))));refine Zae (Zab (goMv rfl rfl (Zaa.go (ZaE rfl rfl) (Zaa.go (Zan rfl fi112_3 rfl rfl rfl) (Zaa.go (Za1 (f := 40) rfl rfl (hxb) rfl on4 rfl) (goAs rfl rfl (Zac (Zao ?_))))))));exact ⟨_, [40], _, Zam rfl, rfl, rfl, rfl, rfl⟩
theorem alone3_c {wb mv : Nat} {nb pb : Nat → Nat} {N : Net} {M : MF} (h : Rep wb mv nb pb N M) (e : Nat × Int) {y : Po} (hy : N.po[e.1]? = some y) (hr : -1000000000000000000 ≤ y.room ∧ y.room ≤ 1000000000000000000) (he : -2000000000000000000 ≤ e.2 ∧ e.2 ≤ 2000000000000000000) : ACalls Tryz.prog 84 [.d (efD pb e)] (HN M) fun r H' => r = .d (boolD (ovP y e.2)) ∧ H' = HN M := by
  have hov := overdrawn_c h hy e.2 hr he;refine ZaG Tryz.func84 rfl rfl Tryz.ntmps84 rfl rfl rfl fun F hF => (Zae (Zab (Zaj.go (Za0 1 rfl rfl rfl rfl rfl rfl rfl) (goAs rfl rfl (Zac (Zae ?_))))));refine Zab (Zaa.go (Zag rfl fi119_0 rfl rfl rfl) (Zaa.go (Zah rfl rfl rfl on117 rfl) (Zaa.go (Zag rfl fi119_1 rfl rfl rfl) (Zaa.go (Zah rfl rfl rfl on2 rfl) (Zaj.go (Zbt hov rfl [40] ⟨rfl, trivial⟩ rfl rfl rfl rfl rfl rfl rfl rfl rfl) (goAs rfl rfl (Zac (Zao ?_))))))));exact ⟨_, [40], _, Zam rfl, rfl, rfl, rfl, rfl⟩
abbrev HA (wb mv : Nat) (bs : Option (List Nat × Nat)) (L : List (Int × Value)) (M : MF) : Hp := (910, [.blk 98 [.d (pD wb 0)]]) :: HW mv bs L M
theorem alone2_c {wb mv : Nat} {nb pb : Nat → Nat} {N : Net} {M : MF} (bs : Option (List Nat × Nat)) (h : Rep wb mv nb pb N M) (hn : (idsN N).Nodup) {id : Int} (hid : id ∈ idsN N) : ACalls Tryz.prog 82 [.d (intD id), .ptr 910 0 0] (HA wb mv bs (byL nb (idsN N)) M) fun r H' => r = .d (boolD (!offOf N id)) ∧ H' = HA wb mv bs (byL nb (idsN N)) M := by
  have hwb := h.w;have hil := List.idxOf_lt_length_of_mem hid;have hil2 : (idsN N).idxOf id < N.nd.length := by unfold idsN at hil ⊢; rw [List.length_map] at hil; exact hil
  obtain ⟨z, hz⟩ : ∃ z, N.nd[(idsN N).idxOf id]? = some z := ⟨_, List.getElem?_eq_getElem hil2⟩
  have hgz : N.nd.getD ((idsN N).idxOf id) nd0 = z := by rw [List.getD_eq_getElem?_getD, hz]; rfl
  have hzb := h.n _ z hz;have hby := byL_get (nb := nb) hn hil;rw [List.getElem_idxOf hil] at hby;have hof : (!offOf N id) = z.on := by unfold offOf; rw [hgz, Bool.not_not]
  refine ZaG Tryz.func82 rfl rfl Tryz.ntmps82 rfl rfl rfl fun F hF => (Zae ?_);refine Zab (goAs rfl rfl (Zac (Zae (Zab (Zaa.go (Zah rfl rfl rfl on98 rfl) (Zaa.go (ZaE rfl rfl) (Zaa.go (Zan rfl fi108_2 rfl rfl rfl) (Zaa.go (Za1 (f := 40) rfl rfl (hwb) rfl on106 rfl) ?_))))))));refine o_rawMap 7 51 0 rfl rfl (goMv rfl rfl (Zaa.go (ZbG (byL nb (idsN N)) id (.pointer none) (pV (nb ((idsN N).idxOf id)) 0) rfl rfl rfl mt106 kt3 za103 hby rfl) (Zaa.go (ZaE rfl rfl) (Zaa.go (Zan rfl fi112_3 rfl rfl rfl) (Zaa.go (Za1 (f := 40) rfl rfl (hzb) rfl on4 rfl) (goAs rfl rfl (Zac (Zao ?_))))))));exact ⟨_, [910, 40, 50, 51], _, Zam rfl, rfl, rfl, by rw [hof], rfl⟩
end Go.Proofs.YtneihdahboilnaaGreat
