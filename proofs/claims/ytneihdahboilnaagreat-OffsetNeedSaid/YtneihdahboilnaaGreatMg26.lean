/- Layer 30: what holds of the network in closed form. Plain laws. -/
import Derived.Test.YtneihdahboilnaaGreatMg25
namespace Go.Proofs.YtneihdahboilnaaGreat
open Go.RowKit

theorem ers_getN (N : Net) (i : Nat) : (ersN N).nd.getD i nd0 = ers (N.nd.getD i nd0) := by
  show (N.nd.map ers).getD i nd0 = _;rw [List.getD_eq_getElem?_getD, List.getD_eq_getElem?_getD, List.getElem?_map]
  cases N.nd[i]? <;> rfl
theorem ers_getP (N : Net) (j : Nat) : (ersN N).po.getD j po0 = ersP (N.po.getD j po0) := by
  show (N.po.map ersP).getD j po0 = _;rw [List.getD_eq_getElem?_getD, List.getD_eq_getElem?_getD, List.getElem?_map]
  cases N.po[j]? <;> rfl
theorem ers_ids (N : Net) : idsN (ersN N) = idsN N := by
  unfold idsN ersN;rw [List.map_map]; rfl
theorem inadm_ers (N : Net) (x : Nd) : inadm (ersN N) (ers x) = inadm N x := by
  have h1 : badP (ersN N) = badP N := funext fun e => by unfold badP; rw [ers_getP]; rfl
  have h2 : ∀ e, excQ (ersN N) (ers x) e = excQ N x e := fun e => by unfold excQ; rw [ers_getP, ers_getN]; rfl
  have h3 : offOf (ersN N) = offOf N := funext fun e => by unfold offOf; rw [ers_getN, ers_ids]; rfl
  unfold inadm;rw [h1, h3];show (match x.pl.find? (badP N) with | some e => _ | none => match x.it.af.find? (offOf N) with | some id => _ | none => _) = _
  cases x.pl.find? (badP N) with
  | some e => show some (excQ (ersN N) (ers x) e) = some (excQ N x e); rw [h2]
  | none => rfl
theorem next_ers (N : Net) : nextN (ersN N) = nextN N := by
  have h1 : (ersN N).nd.findSome? (ndX (ersN N)) = N.nd.findSome? (ndX N) := by
    show (N.nd.map ers).findSome? _ = _;rw [List.findSome?_map]
    congr 1
    funext x
    show ndX (ersN N) (ers x) = ndX N x;unfold ndX;rw [inadm_ers]; rfl
  have h2 : (ersN N).po.findSome? (poX (ersN N)) = N.po.findSome? (poX N) := by
    show (N.po.map ersP).findSome? _ = _;rw [List.findSome?_map]
    congr 1
    funext y
    show poX (ersN N) (ersP y) = poX N y;have h3 : onN (ersN N) = onN N := funext fun i => by unfold onN; rw [ers_getN]; rfl
    have h4 : ∀ i, ((ersN N).nd.getD i nd0).it.id = (N.nd.getD i nd0).it.id := fun i => by rw [ers_getN]; rfl
    unfold poX;rw [h3];show (if ovP y y.sum = true then (y.q.reverse.find? (onN N)).map fun i => (⟨((ersN N).nd.getD i nd0).it.id, 0, y.r, -1⟩ : Exc) else none) = _;rw [show (fun i => (⟨((ersN N).nd.getD i nd0).it.id, 0, y.r, -1⟩ : Exc)) = fun i => ⟨(N.nd.getD i nd0).it.id, 0, y.r, -1⟩ from funext fun i => by rw [h4]]
  unfold nextN;rw [h1, h2]
theorem inadm_id {N : Net} {x : Nd} {e : Exc} (h : inadm N x = some e) : e.id = x.it.id := by
  unfold inadm at h
  split at h
  · injection h with h; subst h; rfl
  · split at h
    · injection h with h; subst h; rfl
    · cases h
theorem next_on {N : Net} {e : Exc} (h : nextN N = some e) : ∃ (i : Nat) (x : Nd), N.nd[i]? = some x ∧ x.on = true ∧ e.id = x.it.id := by
  unfold nextN at h
  split at h
  · rename_i e' h1
    injection h with h; subst h
    obtain ⟨x, hx, h2⟩ := List.exists_of_findSome?_eq_some h1;obtain ⟨i, hi, e1⟩ := List.getElem_of_mem hx;unfold ndX at h2
    split at h2
    · rename_i ho
      exact ⟨i, x, by rw [List.getElem?_eq_getElem hi, e1], ho, inadm_id h2⟩
    · cases h2
  · obtain ⟨y, hy, h2⟩ := List.exists_of_findSome?_eq_some h;unfold poX at h2
    split at h2
    · cases hf : y.q.reverse.find? (onN N) with
      | none => rw [hf] at h2; cases h2
      | some i =>
        rw [hf] at h2;injection h2 with h2; subst h2
        have ho := List.find?_some hf;unfold onN at ho
        by_cases hi : i < N.nd.length
        · rw [ZaT nd0 hi] at ho;exact ⟨i, N.nd[i], List.getElem?_eq_getElem hi, ho, by show (N.nd.getD i nd0).it.id = _; rw [ZaT nd0 hi]⟩
        · rw [List.getD_eq_getElem?_getD, List.getElem?_eq_none (by omega)] at ho
          cases ho
    · cases h2
structure SmO (ros : List Roo) (its : List Itm) : Prop where
  l : its.length ≤ 30
  x : ∀ x ∈ its, FewI x
  i : (its.map Itm.id).Nodup
  a : ∀ x ∈ its, ∀ id ∈ x.af, id ∈ its.map Itm.id
  r : (ros.map Roo.r).Nodup
  n : ∀ x ∈ ros, -4000000000000000 ≤ x.n ∧ x.n ≤ 4000000000000000
  o : ros.length ≤ 100
theorem S_nd {ros : List Roo} {its : List Itm} {on : Nat → Bool} {x : Nd} (h : x ∈ (netS ros its on).nd) : ∃ i, i < its.length ∧ x = ndS (ros.map Roo.r) its on i := by
  obtain ⟨i, hi, e⟩ := List.mem_map.1 h;exact ⟨i, List.mem_range.1 hi, e.symm⟩
theorem S_ids (ros : List Roo) (its : List Itm) (on : Nat → Bool) : idsN (netS ros its on) = its.map Itm.id := by
  unfold idsN netS;rw [List.map_map]
  apply List.ext_getElem (by simp)
  intro i a b;simp only [List.getElem_map, List.getElem_range, Function.comp];show (its.getD i itm0).id = _;rw [ZaT itm0 (by simpa using b)]
theorem efK_mem {rs : List Rsc} {D : List (Rsc × Int)} {e : Nat × Int} (h : e ∈ efK rs D) : ∃ d ∈ D, e.2 = d.2 := by
  obtain ⟨d, hd, rfl⟩ := List.mem_map.1 h;exact ⟨d, (List.mem_filter.1 hd).1, rfl⟩
theorem plK_mem {rs : List Rsc} {ds : List (List (Rsc × Int))} {D : List (Rsc × Int)} {e : Nat × Nat} (h : e ∈ plK rs ds D) : ∃ d ∈ D, d.1 ∈ rs ∧ d.2 < 0 ∧ e = (rs.idxOf d.1, (negQ ds d.1).length) := by
  obtain ⟨d, hd, rfl⟩ := List.mem_map.1 h;have h1 := List.mem_filter.1 hd;have h2 := h1.2;simp only [Bool.and_eq_true, decide_eq_true_eq] at h2;exact ⟨d, h1.1, h2.1, h2.2, rfl⟩
theorem S_sum {ros : List Roo} {its : List Itm} (h : SmO ros its) (on : Nat → Bool) (r : Rsc) : -30000000000000000 ≤ sumS (its.map dltS) on r ∧ sumS (its.map dltS) on r ≤ 30000000000000000 := by
  have key : ∀ l : List Nat, -(l.length * 1000000000000000) ≤ (l.map fun i => if on i = true then amt ((its.map dltS).getD i []) r else 0).sum ∧ (l.map fun i => if on i = true then amt ((its.map dltS).getD i []) r else 0).sum ≤ l.length * 1000000000000000 := by
    intro l
    induction l with
    | nil => simp
    | cons i l ih =>
      simp only [List.map_cons, List.sum_cons, List.length_cons]
      have hb : Bnd ((its.map dltS).getD i []) := by
        rcases getD_mem (l := its.map dltS) (d := []) i with hm | hm
        · obtain ⟨x, _, e⟩ := List.mem_map.1 hm; rw [← e]; exact dlt_bnd x
        · rw [hm]; intro x hx; cases hx
      have h1 := amt_bnd hb r
      split <;> omega
  have h1 := key (List.range (its.map dltS).length);have h2 := h.l;unfold sumS;rw [List.length_range, List.length_map] at h1;rw [List.length_map] at *;omega
theorem S_w {ros : List Roo} {its : List Itm} (h : SmO ros its) (on : Nat → Bool) : NetW (netS ros its on) := by
  have hl := h.l
  have hmi : ∀ y ∈ (netS ros its on).po, y.q.length ≤ 30 ∧ y.mi ≤ 30 ∧ ∃ x ∈ ros, y = poS (its.map dltS) on x := fun y hy => by
    obtain ⟨x, hx, e⟩ := List.mem_map.1 hy;subst e;have h1 := negQ_len (its.map dltS) x.r;rw [List.length_map] at h1;have h2 : miS on (negQ (its.map dltS) x.r) ≤ (negQ (its.map dltS) x.r).length := List.findIdx_le_length;exact ⟨by show (negQ _ _).length ≤ _; omega, by show miS _ _ ≤ _; omega, x, hx, rfl⟩
  refine ⟨by rw [S_ids]; exact h.i, fun x hx id hid => ?_, fun x hx => ?_, fun x hx e he => ?_, fun x hx e he => ?_, fun y hy => ?_, fun y hy => ?_, ?_, fun y hy => ?_⟩
  · obtain ⟨i, hi, rfl⟩ := S_nd hx;rw [S_ids];refine h.a (its.getD i itm0) (by rw [ZaT itm0 hi]; exact List.getElem_mem hi) id hid
  · obtain ⟨i, hi, rfl⟩ := S_nd hx;have hm : its.getD i itm0 ∈ its := by rw [ZaT itm0 hi]; exact List.getElem_mem hi
    have h1 := dlt_len (h.x _ hm);have h2 := efK_len (ros.map Roo.r) (dltS (its.getD i itm0));have h3 := plK_len (ros.map Roo.r) ((its.map dltS).take i) (dltS (its.getD i itm0));have h4 := (h.x _ hm).2.2;exact ⟨by show (efK _ _).length ≤ _; omega, by show (plK _ _ _).length ≤ _; omega, by show (its.getD i itm0).af.length ≤ _; omega⟩
  · obtain ⟨i, hi, rfl⟩ := S_nd hx;obtain ⟨d, hd, e1⟩ := efK_mem he;have := dlt_bnd _ d hd;rw [e1]; omega
  · obtain ⟨i, hi, rfl⟩ := S_nd hx;obtain ⟨d, hd, hm, hneg, rfl⟩ := plK_mem he;obtain ⟨hj, hr⟩ := idx_ros hm;have hdi : i < (its.map dltS).length := by simpa using hi
    have hgi : (its.map dltS).getD i [] = dltS (its.getD i itm0) := by rw [ZaT [] hdi, ZaT itm0 hi, List.getElem_map]
    have hamt : amt ((its.map dltS).getD i []) d.1 = d.2 := by rw [hgi]; exact ZcA (ZcQ _) hd
    obtain ⟨B, c1, c2, c3⟩ := negQ_cut hdi d.1
    have hq : ((netS ros its on).po.getD ((ros.map Roo.r).idxOf d.1) po0).q = negQ (its.map dltS) d.1 := by
      show ((ros.map _).getD _ po0).q = _;rw [ZaT po0 (by simpa using hj), List.getElem_map];show negQ _ (ros[(ros.map Roo.r).idxOf d.1]).r = _;rw [hr]
    rw [hq];dsimp only;have hlen := congrArg List.length c1;rw [if_pos (by rw [hamt]; exact hneg), List.length_append, List.length_append, List.length_singleton] at hlen;have h1 := negQ_len ((its.map dltS).take i) d.1;rw [List.length_take, List.length_map] at h1;omega
  · have := hmi y hy; omega
  · obtain ⟨_, _, x, hx, rfl⟩ := hmi y hy;have := h.n x hx;show -1000000000000000000 ≤ x.n ∧ x.n ≤ 1000000000000000000;omega
  · have h1 : (netS ros its on).nd.length = its.length := by unfold netS; simp
    have h2 : (netS ros its on).po.length = ros.length := by unfold netS; simp
    have := h.o;omega
  · have := hmi y hy; omega
theorem W_ers {N : Net} (h : NetW (ersN N)) : NetW N := by
  have hn : ∀ x ∈ N.nd, ers x ∈ (ersN N).nd := fun x hx => List.mem_map.2 ⟨x, hx, rfl⟩;have hp : ∀ y ∈ N.po, ersP y ∈ (ersN N).po := fun y hy => List.mem_map.2 ⟨y, hy, rfl⟩;refine ⟨by rw [← ers_ids]; exact h.i, fun x hx id hid => by rw [← ers_ids]; exact h.a _ (hn x hx) id hid, fun x hx => h.l (ers x) (hn x hx), fun x hx => h.e (ers x) (hn x hx), fun x hx e he => ?_, fun y hy => h.m (ersP y) (hp y hy), fun y hy => h.rm (ersP y) (hp y hy), ?_, fun y hy => h.ql (ersP y) (hp y hy)⟩
  · have := h.p _ (hn x hx) e he;rw [ers_getP] at this; exact this
  · have := h.n;have h1 : (ersN N).nd.length = N.nd.length := by unfold ersN; simp
    have h2 : (ersN N).po.length = N.po.length := by unfold ersN; simp
    omega
theorem S_sumB {N : Net} {ros : List Roo} {its : List Itm} (h : SmO ros its) {on : Nat → Bool} (hN : ersN N = netS ros its on) : sumB N.po 1000000000000000000 := fun y hy => by
  have h1 : ersP y ∈ (ersN N).po := List.mem_map.2 ⟨y, hy, rfl⟩;rw [hN] at h1;obtain ⟨x, hx, e⟩ := List.mem_map.1 h1;have h2 := S_sum h on x.r;have h3 : y.sum = sumS (its.map dltS) on x.r := congrArg Po.sum e.symm;rw [h3]; omega
end Go.Proofs.YtneihdahboilnaaGreat
/- Layer 30: the removal procedure. -/
namespace Go.Proofs.YtneihdahboilnaaGreat
open Go.RowKit

def runS (ros : List Roo) (its : List Itm) : Nat → (Nat → Bool) → List Exc × (Nat → Bool)
  | 0, on => ([], on)
  | f + 1, on => match nextN (netS ros its on) with
    | none => ([], on)
    | some e => (e :: (runS ros its f (setOff on ((its.map Itm.id).idxOf e.id))).1, (runS ros its f (setOff on ((its.map Itm.id).idxOf e.id))).2)
def cntOn (n : Nat) (on : Nat → Bool) : Nat := ((List.range n).filter on).length
def explS (p : Prb) : List Exc × (Nat → Bool) := runS (rosS p) (ordP p) (ordP p).length fun _ => true
def onIds (its : List Itm) (on : Nat → Bool) (k : Nat) : List Int := ((List.range k).filter on).map fun i => (its.getD i itm0).id
theorem cntOn_off {n i : Nat} (hi : i < n) {on : Nat → Bool} (ho : on i = true) : cntOn n (setOff on i) + 1 = cntOn n on := by
  obtain ⟨B, h1, h3⟩ := range_cut hi;unfold cntOn;rw [h1, List.filter_append, List.filter_append, List.length_append, List.length_append, List.filter_cons, List.filter_cons, setOff_at, ho];have e1 : (List.range i).filter (setOff on i) = (List.range i).filter on := List.filter_congr fun j hj => Zc2 (by have := List.mem_range.1 hj; omega);have e2 : B.filter (setOff on i) = B.filter on := List.filter_congr fun j hj => Zc2 (by have := h3 j hj; omega);rw [e1, e2]
  simp
  omega
theorem idx_nodup {α : Type} [BEq α] [LawfulBEq α] {l : List α} (hn : l.Nodup) {i : Nat} (hi : i < l.length) : l.idxOf l[i] = i := by
  have h1 : l.idxOf l[i] < l.length := List.idxOf_lt_length_of_mem (List.getElem_mem hi);have h2 := List.getElem_idxOf h1;exact (List.getElem_inj hn).1 h2
theorem run_none {ros : List Roo} {its : List Itm} {f : Nat} {on : Nat → Bool} (h : nextN (netS ros its on) = none) : runS ros its f on = ([], on) := by
  cases f with
  | zero => rfl
  | succ f => unfold runS; rw [h]
theorem run_some {ros : List Roo} {its : List Itm} {f : Nat} {on : Nat → Bool} {e : Exc} (h : nextN (netS ros its on) = some e) : runS ros its (f + 1) on = (e :: (runS ros its f (setOff on ((its.map Itm.id).idxOf e.id))).1, (runS ros its f (setOff on ((its.map Itm.id).idxOf e.id))).2) := by
  show (match nextN (netS ros its on) with | none => _ | some e => _) = _;rw [h]
theorem S_nd_at {ros : List Roo} {its : List Itm} {on : Nat → Bool} {N : Net} (h : ersN N = netS ros its on) {i : Nat} {x : Nd} (hx : N.nd[i]? = some x) : i < its.length ∧ x.on = on i ∧ x.it = its.getD i itm0 := by
  have h1 : (N.nd.map ers)[i]? = some (ers x) := by rw [List.getElem?_map, hx]; rfl
  rw [show N.nd.map ers = (List.range its.length).map (ndS (ros.map Roo.r) its on) from congrArg Net.nd h] at h1;have hi : i < its.length := by have := (List.getElem?_eq_some_iff.1 h1).1; simpa using this
  rw [List.getElem?_map, List.getElem?_range hi] at h1;have h2 : ers x = ndS (ros.map Roo.r) its on i := (Option.some.inj h1).symm;exact ⟨hi, congrArg Nd.on h2, congrArg Nd.it h2⟩
theorem onIds_snoc (its : List Itm) (on : Nat → Bool) (k : Nat) : onIds its on (k + 1) = onIds its on k ++ if on k = true then [(its.getD k itm0).id] else [] := by
  unfold onIds;rw [List.range_succ, List.filter_append, List.map_append, filt1]
  split <;> rfl
theorem onIds_len (its : List Itm) (on : Nat → Bool) (k : Nat) : (onIds its on k).length ≤ k := by
  unfold onIds;rw [List.length_map];exact Nat.le_trans (List.length_filter_le _ _) (by simp)
theorem S_len {ros : List Roo} {its : List Itm} {on : Nat → Bool} {N : Net} (h : ersN N = netS ros its on) : N.nd.length = its.length := by
  have h1 := congrArg (fun N => N.nd.length) h;have h2 : (N.nd.map ers).length = ((List.range its.length).map _).length := h1
  rwa [List.length_map, List.length_map, List.length_range] at h2
theorem sml_P {p : Prb} (hf : FewP p) (hE : prbE p = 0) : SmO (rosS p) (ordP p) := by
  refine ⟨Nat.le_trans (ordP_len p) hf.i, fun x hx => hf.x x (ordP_mem hx), ord_ids hE, fun x hx id hid => ?_, rosS_nodup hE, fun x hx => ?_, ?_⟩
  · have h1 : ordP p = sortO p.it := if_pos hE;have h2 : fErr (p.it.map Itm.id) x = 0 := fst0_all (Zbn hE).2.2 _ (List.mem_map.2 ⟨x, ordP_mem hx, rfl⟩)
    have h3 : id ∈ p.it.map Itm.id := by
      unfold fErr at h2
      split at h2
      · cases h2
      · rename_i h4
        by_cases h5 : id ∈ p.it.map Itm.id
        · exact h5
        · exact absurd (List.any_eq_true.2 ⟨id, hid, by unfold notIn; simpa using h5⟩) h4
    rw [h1];exact ((Zbe p.it).map Itm.id).mem_iff.2 h3
  · have h1 : x ∈ p.ro := by
      obtain ⟨i, hi, rfl⟩ := List.mem_map.1 hx;have hi' := List.mem_range.1 ((Zcl (p.ro.map Roo.r)).mem_iff.1 hi);rw [ZaT roo0 (by simpa using hi')]; exact List.getElem_mem _
    exact rooms_amt (Zbn hE).1 x h1
  · unfold rosS; rw [List.length_map, (Zcl _).length_eq, List.length_range, List.length_map]; exact hf.r
set_option maxRecDepth 100000 in
theorem explain_bad (p : Prb) (hf : FewP p) (hE : prbE p ≠ 0) : PCalls Tryz.prog 21 [.d (prbD p)] (.tup [.sl (some true) [], .sl (some true) [], intD (prbE p)]) := by
  have hbu := build_bad p hf hE;refine ZaI Tryz.func21 rfl rfl Tryz.ntmps21 rfl rfl rfl fun F hF => (Zag (Zab (Zam.go (ZaS 1 rfl rfl rfl rfl rfl rfl rfl) (Zaa.go (Zad rfl rfl) (Zaa.go (Zad rfl rfl) (Zaa.go (Zad rfl rfl) ?_))))));refine Zaf (a_scope (Zag (Zab (Zaa.go (Zap rfl rfl rw35 rfl rfl rfl) (Zam.go (Zby hbu rfl [] trivial rfl rfl rfl rfl rfl rfl rfl rfl rfl) (Zaa.go (Zac rfl rfl) (Zaa.go (ZaA rfl rfl rfl) (Zaa.go (ZaA rfl rfl rfl) ?_))))))));refine Zaa.go (Zad rfl rfl) (Zaa.go (Zad rfl rfl) (Zaf (Zag (Zag (Zab (Zaa.go (Zac rfl rfl) (Zaa.go (Za0 rfl rfl rfl) (Zaf ?_))))))));refine ZaW rfl ((by simpa using hE)) (Zag (Zab (Zaa.go (Zac rfl rfl) (Zaa.go (Zad rfl rfl) (Zaa.go (Zad rfl rfl) (Zaa.go (Zad rfl rfl) (Zaf (Zav ?_))))))));exact ⟨_, [], [], Zaq rfl, rfl, rfl, rfl, rfl⟩
set_option maxRecDepth 100000 in
set_option maxHeartbeats 1000000 in
theorem explain_ok (p : Prb) (hf : FewP p) (hE : prbE p = 0) : PCalls Tryz.prog 21 [.d (prbD p)] (.tup [.sl none ((onIds (ordP p) (explS p).2 (ordP p).length).map intD), .sl none ((explS p).1.map excD), intD 0]) := by
  have hbu := build_ok p hf hE;have hsm := sml_P hf hE;unfold explS;rw [netP_S] at hbu
  obtain ⟨its, hits⟩ : ∃ its, ordP p = its := ⟨_, rfl⟩
  obtain ⟨ros, hros⟩ : ∃ ros, rosS p = ros := ⟨_, rfl⟩
  rw [hits, hros] at hbu hsm ⊢;have hl := hsm.l;refine ZaI Tryz.func21 rfl rfl Tryz.ntmps21 rfl rfl rfl fun F hF => (Zag (Zab ?_));refine Zam.go (ZaS 1 rfl rfl rfl rfl rfl rfl rfl) (Zaa.go (Zad rfl rfl) (Zaa.go (Zad rfl rfl) (Zaa.go (Zad rfl rfl) (Zaf (a_scope (Zag (Zab (Zaa.go (Zap rfl rfl rw35 rfl rfl rfl) ?_))))))));refine o_step (st_callX hbu rfl [40, 50, 51] ⟨rfl, rfl, rfl, trivial⟩ rfl rfl rfl rfl (fun r H' ⟨_, _, _, _, _, _, _, e1, e2, _⟩ => by subst e1 e2; exact ⟨rfl, rfl, rfl⟩) rfl) rfl ?_; rintro _ ⟨r, H', ⟨wb, mv, nb, pb, N, M, bs, rfl, rfl, hR, hN⟩, rfl⟩;refine Zaa.go (Zac rfl rfl) (Zaa.go (ZaA rfl rfl rfl) (Zaa.go (ZaA rfl rfl rfl) (Zaa.go (Zad rfl rfl) (Zaa.go (Zad rfl rfl) (Zaf ?_)))));refine Zag (Zag (Zab (Zaa.go (Zac rfl rfl) (Zaa.go (Za0 rfl rfl rfl) (Zaf (Za1 rfl (rfl) (Zas (Zag ?_))))))));have hids : idsN N = its.map Itm.id := by rw [← ers_ids, hN, S_ids]
  rw [hids];refine Zab (Zaa.go (Zad rfl rfl) (Zaf (Zag (a_label (Zag (Zat (Zca 7 900 sl42 rfl rfl rfl rfl (ZaO (α := (Nat → Bool) × Net × MF × List Exc × Nat) (fun q => ⟨64, [(5, (.d (pD wb 0))), (7, (.own 900 0 q.2.2.2.1.length))], (900, [.rowD 53 9 (q.2.2.2.1.map excD)]) :: HW mv bs (byL nb (its.map Itm.id)) q.2.2.1⟩) (fun q => Rep wb mv nb pb q.2.1 q.2.2.1 ∧ ersN q.2.1 = netS ros its q.1 ∧ cntOn its.length q.1 ≤ q.2.2.2.2 ∧ q.2.2.2.1.length + q.2.2.2.2 ≤ its.length ∧ q.2.2.2.1 ++ (runS ros its q.2.2.2.2 q.1).1 = (runS ros its its.length fun _ => true).1 ∧ (runS ros its q.2.2.2.2 q.1).2 = (runS ros its its.length fun _ => true).2) (fun q => q.2.2.2.2) ((fun _ => true, N, M, [], its.length)) (⟨hR, hN, by show ((List.range its.length).filter _).length ≤ _; exact Nat.le_trans (List.length_filter_le _ _) (by simp), by simp, rfl, rfl⟩) (Zaw hF [900, 40, 50, 51] rfl rfl ⟨rfl, rfl, trivial⟩) ?_))))))));rintro ⟨on, N, M, acc, f⟩ ⟨hR, hN, hc, hal, hr1, hr2⟩;dsimp only at hR hN hc hal hr1 hr2 ⊢;refine Zat (Zag ?_);have hw := W_ers (N := N) (by rw [hN]; exact S_w hsm on);have hsb := S_sumB hsm hN;have hids : idsN N = its.map Itm.id := by rw [← ers_ids, hN, S_ids]
  have hnx := next_c bs hR hw hsb;rw [hids] at hnx;refine Zab (Zaa.go (Zac rfl rfl) (Zam.go (Zby hnx rfl [40, 50, 51] ⟨rfl, rfl, rfl, trivial⟩ rfl rfl rfl rfl rfl rfl rfl rfl rfl) (Zaa.go (Zac rfl rfl) ?_)))
  cases hne : nextN N
  · refine Zaa.go (ZaA rfl rfl rfl) (Zaa.go (ZaA rfl rfl rfl) (Zam.go (ZaX 2 zl53 rfl rfl rfl rfl) (Zam.go (ZaF rfl rfl rfl rfl rfl rfl rfl sz53) (Zaa.go (Zad rfl rfl) (Zaf ?_)))));refine Zag (Zag (Zab (Zaa.go (Zac rfl rfl) (Zaa.go (Zbf rfl rfl) (Zaf (ZaW rfl (rfl) (ZaQ (Zag ?_))))))));have hro : runS ros its f on = ([], on) := run_none (by rw [← hN, next_ers, hne]);rw [hro] at hr1 hr2;rw [List.append_nil] at hr1;dsimp only at hr2;have hwb := hR.w;have hnr : rowAt M N.nh pnT 1 ((List.range N.nd.length).map fun i => ptrD (nb i)) := hR.rs.1 .n;have hnz := ZbM hnr;rw [List.length_range] at hnz;have hNl := S_len hN;refine Zab (Zaa.go (Zad rfl rfl) (Zaf (Zag (Zag (Zab (Zaa.go (Zac rfl rfl) ?_))))));refine Zaa.go (ZaN rfl rfl) (Zaa.go (Zar rfl ZcD rfl rfl rfl) (Zaa.go (Za7 (f := 40) rfl rfl (hwb) rfl on104 rfl) (Zaa.go (Zcu hnz rfl Tryz.underlying104 rfl) (Zaa.go (Zac rfl rfl) (Zaf (Zat (Zca 10 901 sl28 rfl rfl rfl rfl (ZaO (α := Nat × List Int) (fun q => ⟨64, [(7, (.own 900 0 acc.length)), (10, (.own 901 0 q.2.length)), (43, (.d (hdr N.nh N.nd.length))), (44, (.d (intD (N.nd.length : Int)))), (45, (.d (intD (q.1 : Int))))], (901, [.rowD 3 1 (q.2.map intD)]) :: (900, [.rowD 53 9 (acc.map excD)]) :: HW mv bs (byL nb (its.map Itm.id)) M⟩) (fun q => q.1 ≤ N.nd.length ∧ q.2 = onIds its on q.1) (fun q => N.nd.length - q.1) ((0, [])) (⟨Nat.zero_le _, rfl⟩) (Zaw hF [901, 900, 40, 50, 51] rfl rfl ⟨rfl, rfl, rfl, rfl, rfl, trivial⟩) ?_))))))));rintro ⟨k, ids⟩ ⟨hk0, hI⟩;dsimp only at hk0 hI ⊢;refine Zag (Zab (Zaa.go (ZaM rfl rfl rfl) (Zaf (Zag (ZaK rfl (fun h46 => ?_) (fun h46 => ?_))))))
    · have hk1 : k < N.nd.length := ZaP h46;refine Zas (Zag (Zat (Zag ?_)))
      obtain ⟨x, hx⟩ : ∃ x, N.nd[k]? = some x := ⟨_, List.getElem?_eq_getElem hk1⟩
      obtain ⟨hiN, hoi, hit⟩ := S_nd_at hN hx;have hxb := hR.n k x hx;obtain ⟨rb, rc, hre⟩ := ZbK hnr (j := k) (by rw [List.length_range]; exact hk1);have hrow := ZbZ hnr hre;have hidl : ids.length ≤ k := by rw [hI]; exact onIds_len its on k
      refine Zab (Zaa.go (Zb0 hre (k) rfl rfl rfl hk1 Tryz.underlying104 sz103 rfl) (Zaa.go (ZcT (f := 40) (e := k) (off := 0) rfl (by omega) rfl (hrow) ((by rw [List.getElem?_map, List.getElem?_range hk1]; rfl)) rfl on103 rfl) ?_));refine Zaa.go (Zad rfl rfl) ?_;refine Zaf (Zag (Zab (Zaa.go (Zac rfl rfl) (Zaa.go (ZaN rfl rfl) (Zaa.go (Zar rfl ZcW rfl rfl rfl) (Zaa.go (Za7 (f := 40) rfl rfl (hxb) rfl on4 rfl) (Zaf (Zbl rfl (fun h52 => ?_) (fun h52 => ?_)))))))))
      · refine Zab (Zaa.go (Zac rfl rfl) (Zaa.go (Zac rfl rfl) (Zaa.go (ZaN rfl rfl) (Zaa.go (Zar rfl fi112_0 rfl rfl rfl) (Zaa.go (Zar rfl Zb6 rfl rfl rfl) ?_)))));refine Zaa.go (Za7 (f := 40) rfl rfl (hxb) rfl on3 rfl) (Zam.go (ZaJ 3 sl28 rfl rfl rfl rfl rfl rfl rfl rfl) (Zam.go (Zbd (ids) ([x.it.id]) rfl rfl rfl rfl rfl rfl rfl rfl sl28 (by simp only [List.length_singleton]; omega) rfl rfl rfl rfl) (Zaa.go (Zad rfl rfl) (Zaf (Zab (Zaa.go (ZaG rfl rfl (wrapS (k + 1) (by omega)) rfl) (Zaa.go (Zac rfl rfl) (Zaf ?_))))))));exact ⟨(k + 1, _), ⟨by show k + 1 ≤ _; omega, by show _ = onIds its on (k + 1); rw [onIds_snoc, if_pos (by rw [← hoi]; simpa using h52), ← hI, ← hit]⟩, by show N.nd.length - (k + 1) < N.nd.length - k; omega, Zaw hF [901, 900, 40, 50, 51] rfl (rfl) ⟨rfl, rfl, rfl, rfl, rfl, trivial⟩⟩
      · refine Zas (Zab (Zaa.go (ZaG rfl rfl (wrapS (k + 1) (by omega)) rfl) (Zaa.go (Zac rfl rfl) (Zaf ?_))));exact ⟨(k + 1, _), ⟨by show k + 1 ≤ _; omega, by show _ = onIds its on (k + 1); rw [onIds_snoc, if_neg (by rw [← hoi]; simpa using h52), List.append_nil, ← hI]⟩, by show N.nd.length - (k + 1) < N.nd.length - k; omega, Zaw hF [901, 900, 40, 50, 51] rfl (rfl) ⟨rfl, rfl, rfl, rfl, rfl, trivial⟩⟩
    · refine ZaQ (Zag ?_);have hke : k = its.length := by have h := h46; omega
      refine ZbC (emb := excD) 7 900 acc rfl rfl rfl rfl rfl rfl rfl ?_;refine ZbC (emb := intD) 10 901 ids rfl rfl rfl rfl rfl rfl rfl (Zab (Zaa.go (Zac rfl rfl) (Zaa.go (Zac rfl rfl) (Zaa.go (Zad rfl rfl) (Zaa.go (Zad rfl rfl) (Zaa.go (Zad rfl rfl) (Zaf (Zav ?_))))))));exact ⟨_, [], [], Zaq rfl, rfl, rfl, by rw [← hr2, ← hr1, hI, hke], rfl⟩
  · refine Zaa.go (ZaA rfl rfl rfl) (Zaa.go (ZaA rfl rfl rfl) (Zam.go (ZaX 4 zl53 rfl rfl rfl rfl) (Zam.go (ZaF rfl rfl rfl rfl rfl rfl rfl sz53) (Zaa.go (Zad rfl rfl) (Zaf ?_)))));refine Zag (Zag (Zab (Zaa.go (Zac rfl rfl) (Zaa.go (Zbf rfl rfl) (Zaf (Za1 rfl (rfl) (Zas (Zag ?_))))))))
    rename_i e
    obtain ⟨i, x, hx, hon, hid⟩ := next_on hne;obtain ⟨hiN, hoi, hit⟩ := S_nd_at hN hx;rw [hon] at hoi;have hoi := hoi.symm;have hil : i < (its.map Itm.id).length := by rw [List.length_map]; exact hiN
    have hei : (its.map Itm.id)[i] = e.id := by rw [hid, hit, List.getElem_map, ZaT itm0 hiN]
    have hby := byL_get (nb := nb) hsm.i hil;rw [hei] at hby;have hcn := cntOn_off hiN hoi
    obtain ⟨f2, rfl⟩ : ∃ f2, f = f2 + 1 := ⟨f - 1, by omega⟩
    have hrs : runS ros its (f2 + 1) on = (e :: (runS ros its f2 (setOff on i)).1, (runS ros its f2 (setOff on i)).2) := by rw [run_some (by rw [← hN, next_ers, hne]), ← hei, idx_nodup hsm.i hil]
    have hxm := List.mem_of_getElem? hx;have hrm := remove_c hR hx hsb (hw.e x hxm) (hw.l x hxm).1 (hw.l x hxm).2.1 (fun e he => (hw.p x hxm e he).2) hw.m;refine Za2 [[], [0], [0, 1], [0, 1, 2], [], [4], [0, 1, 2, 3, 4, 5], [0, 1, 2, 3, 4, 5, 6]] mixed rfl (dws (Zah [5] [] rfl rfl (fun _ => Zae (Zac rfl rfl)) (Zah [28] [] rfl rfl (fun _ => Zae (ZaN rfl rfl)) ?_)));refine Zah [29] [] rfl rfl (fun _ => Zae (Zar rfl fi108_2 rfl rfl rfl)) (Zah [30] [40] rfl rfl (fun _ => Zae (Za7 (f := 40) rfl rfl (hR.w) rfl on106 rfl)) (Zah [8] [] rfl rfl (fun _ => Zae (Zai rfl fi53_0 rfl rfl rfl)) (Zah [32] [4] rfl rfl (fun _ => Zae (Zaj rfl rfl rfl on3 rfl)) (dwc 6 rfl rfl rfl (dw1 7 rfl rfl (o_rawMap 31 51 0 rfl rfl (Zaa.go (ZbQ (byL nb (its.map Itm.id)) e.id (.pointer none) (pV (nb i) 0) rfl rfl rfl mt106 kt3 za103 hby rfl) (Zaf ⟨rfl, ?_⟩))))))));refine dw1 8 rfl rfl ?_;refine o_step (st_callX hrm rfl [40] ⟨rfl, trivial⟩ rfl rfl rfl rfl (fun r H' ⟨e1, M', e2, _⟩ => by subst e1 e2; exact ⟨rfl, rfl, rfl⟩) rfl) rfl ?_; rintro _ ⟨r, H', ⟨rfl, M2, rfl, hR2⟩, rfl⟩;refine Zaf ⟨rfl, ?_⟩;refine dwe (Zab (Zaa.go (Zac rfl rfl) (Zaa.go (Zap rfl rfl rw53 rfl rfl rfl) (Zam.go (ZaJ 5 sl42 rfl rfl rfl rfl rfl rfl rfl rfl) (Zam.go (Zbd (acc) ([e]) rfl rfl rfl rfl rfl rfl rfl rfl sl42 (by simp only [List.length_singleton]; omega) rfl rfl rfl rfl) (Zaa.go (Zad rfl rfl) (Zaf ?_)))))));exact ⟨(setOff on i, rmN N i x, M2, acc ++ [e], f2), ⟨hR2, rm_S hsm.r hN hiN hoi hx, by show cntOn its.length (setOff on i) ≤ f2; omega, by show (acc ++ [e]).length + f2 ≤ _; rw [List.length_append]; simp; omega, by show (acc ++ [e]) ++ (runS ros its f2 (setOff on i)).1 = _; rw [List.append_assoc, ← hr1, hrs]; rfl, by show (runS ros its f2 (setOff on i)).2 = _; rw [← hr2, hrs]⟩, by show f2 < f2 + 1; omega, Zaw hF [900, 40, 50, 51] rfl (rfl) ⟨rfl, rfl, trivial⟩⟩
end Go.Proofs.YtneihdahboilnaaGreat
/- Layer 30: the reference: sets, orders, rooms. -/
namespace Go.Proofs.YtneihdahboilnaaGreat
open Go.RowKit

set_option maxRecDepth 100000 in
theorem has30_p (l : List Int) (x : Int) (hn : l.length ≤ 140737488355328) : PCalls Tryz.prog 29 [.d (.sl none (l.map intD)), .d (intD x)] (.raw (.bool (decide (x ∈ l)))) := by
  refine ZaI Tryz.func29 rfl rfl Tryz.ntmps29 rfl rfl rfl fun F hF => (Zag (Zab ?_));refine Zaa.go (Zad rfl rfl) (Zaf (Zag (Zag (Zab (Zaa.go (Zad rfl rfl) (Zaf (Zat (a_loop (α := Nat) (fun k => ⟨18, [(0, .d (.sl none (l.map intD))), (1, .d (intD x)), (5, (.d (intD (k : Int))))], []⟩) (fun k => k ≤ l.length ∧ x ∉ l.take k) (fun k => l.length - k) (0) (⟨Nat.zero_le _, by simp⟩) (le_of_has ⟨rfl, rfl, rfl, trivial⟩) ?_))))))));rintro k ⟨hk0, hk⟩;refine Zag (Zag (Zab (Zaa.go (Zac rfl rfl) (Zaa.go (Zac rfl rfl) (Zaa.go (ZaD rfl Tryz.underlying28 rfl) (Zaa.go (ZaM rfl rfl rfl) (Zaf (ZaK rfl (fun h9 => ?_) (fun h9 => ?_)))))))))
  · have hk1 : k < l.length := ZaP h9;refine Zas (Zag (Zat (Zag ?_)));refine Zab (Zaa.go (Zac rfl rfl) (Zaa.go (Zac rfl rfl) (Zaa.go (Zay (k) rfl rfl (rfl) (getm hk1) Tryz.underlying28 rfl sz3 rfl) (Zaa.go (Zaz rfl rfl on3 rfl) (Zaa.go (Zac rfl rfl) (Zaa.go (Zbc rfl rfl rfl) (Zaf (ZaK rfl (fun h17 => ?_) (fun h17 => ?_)))))))))
    · refine Zag (Zab (Zaa.go (Zad rfl rfl) (Zaf (Zav ?_))));exact ⟨_, [], [], Zaq rfl, rfl, rfl, retT (by rw [← h17]; exact List.getElem_mem hk1), rfl⟩
    · refine Zas (Zab (Zaa.go (Zac rfl rfl) (Zaa.go (ZaG rfl rfl (wrapS (k + 1) (by omega)) rfl) (Zaa.go (Zad rfl rfl) (Zaf ?_)))));exact ⟨k + 1, ⟨by show k + 1 ≤ _; omega, not_mem_take_succ hk1 hk (fun e => h17 e.symm)⟩, by show l.length - (k + 1) < l.length - k; omega, ⟨rfl, rfl, fun _ _ => Has.get (l := [(0, _), (1, _), (5, _)]) ⟨rfl, rfl, rfl, trivial⟩⟩⟩
  · refine ZaQ (Zag (Zab (Zaa.go (Zad rfl rfl) (Zaf (Zav ?_)))));exact ⟨_, [], [], Zaq rfl, rfl, rfl, retF (mem_of_take (by have h := h9; omega) hk), rfl⟩
theorem PC.le {γ : Type} {c : γ → γ → Int} (h : PC c) {x y z : γ} (h1 : c x y ≤ 0) (h2 : c y z ≤ 0) : c x z ≤ 0 := by
  by_cases e1 : c x y = 0
  · rw [h.eqv x y z e1]; exact h2
  · by_cases e2 : c y z = 0
    · have a1 := h.anti y z;have e3 : c z y = 0 := by omega
      have a2 := h.eqv z y x e3;have a3 := h.anti z x;have a4 := h.anti y x;omega
    · have := h.trans x y z (by omega) (by omega); omega
theorem ins_sorted {γ : Type} {c : γ → γ → Int} (h : PC c) {acc : List γ} {m : Nat} {x : γ} (hs : acc.Pairwise fun a b => ¬ c b a < 0) (h1 : ∀ y ∈ acc.take m, c y x < 0) (h2 : ∀ y, acc[m]? = some y → ¬ c y x < 0) : ((acc.take m ++ [x]) ++ acc.drop m).Pairwise fun a b => ¬ c b a < 0 := by
  have hd : ∀ y ∈ acc.drop m, ¬ c y x < 0 := fun y hy => by
    cases hm : acc[m]? with
    | none =>
      rw [List.drop_of_length_le (List.getElem?_eq_none_iff.1 hm)] at hy; cases hy
    | some z =>
      obtain ⟨hlt, hz⟩ := List.getElem?_eq_some_iff.1 hm;rw [List.drop_eq_getElem_cons hlt] at hy;have hz2 := h2 z hm;rcases List.mem_cons.1 hy with hy | hy
      · rw [hy, hz]; exact hz2
      · have hp : (acc.drop m).Pairwise fun a b => ¬ c b a < 0 := hs.sublist (List.drop_sublist _ _);rw [List.drop_eq_getElem_cons hlt, List.pairwise_cons] at hp;have h3 := hp.1 y hy;rw [hz] at h3;have a1 := h.anti z x; have a2 := h.anti y z; have a3 := h.anti y x;have := h.le (x := x) (y := z) (z := y) (by omega) (by omega);omega
  rw [List.pairwise_append];refine ⟨?_, hs.sublist (List.drop_sublist _ _), fun a ha b hb => ?_⟩
  · rw [List.pairwise_append];refine ⟨hs.sublist (List.take_sublist _ _), List.pairwise_singleton _ _, fun a ha b hb => ?_⟩;rw [List.mem_singleton.1 hb];have := h1 a ha; have a1 := h.anti a x; omega
  · rcases List.mem_append.1 ha with ha | ha
    · have h3 := h1 a ha;have h4 := hd b hb;have a1 := h.anti a b; have a2 := h.anti b x;have := h.le (x := a) (y := x) (z := b) (by omega) (by omega);omega
    · rw [List.mem_singleton.1 ha]; exact hd b hb
theorem ins_perm {γ : Type} {acc : List γ} {m : Nat} {x : γ} : ((acc.take m ++ [x]) ++ acc.drop m).Perm (acc ++ [x]) := by
  have h : (acc.take m ++ (x :: acc.drop m)).Perm (x :: (acc.take m ++ acc.drop m)) := List.perm_middle;rw [List.take_append_drop] at h;rw [List.append_assoc];exact h.trans (List.perm_append_singleton x acc).symm
theorem rsc_one {γ : Type} (f : γ → Rsc) {l m ys : List γ} (hn : (l.map f).Nodup) (hm : m.Perm l) (hms : m.Pairwise fun a b => ¬ cmpR (f b) (f a) < 0) (h1 : ys.Perm l) (h2 : ys.Pairwise fun a b => ¬ cmpR (f b) (f a) < 0) : ys = m := by
  have st : ∀ {k : List γ}, (k.map f).Nodup → (k.Pairwise fun a b => ¬ cmpR (f b) (f a) < 0) → k.Pairwise fun a b => cmpR (f a) (f b) < 0 := fun {k} hn h => by
    rw [List.Nodup, List.pairwise_map] at hn;refine (h.and hn).imp fun {a b} ⟨g1, g2⟩ => ?_;have h1 := Zce.anti (f a) (f b);have h2 : cmpR (f a) (f b) ≠ 0 := fun e => g2 (cmpR_zero.1 e);omega
  exact strict_one (R := fun a b => cmpR (f a) (f b) < 0) (fun x => by rw [Zce.refl]; omega) (fun x y z => Zce.trans _ _ _) (st ((h1.map f).nodup_iff.2 hn) h2) (st ((hm.map f).nodup_iff.2 hn) hms) fun x => by rw [h1.mem_iff, hm.mem_iff]
theorem sortX_sorted (rs : List Rsc) : (sortX rs).Pairwise fun a b => ¬ cfI rs b a < 0 := by
  have := List.pairwise_mergeSort (le := fun i j => decide (cfI rs i j ≤ 0)) (fun a b c h1 h2 => ?_) (fun a b => ?_) (List.range rs.length)
  · refine List.Pairwise.imp (fun {a b} h => ?_) this;have h1 := (Zcz rs).anti a b;have h2 : cfI rs a b ≤ 0 := by simpa using h
    omega
  · have h1' : cfI rs a b ≤ 0 := by simpa using h1
    have h2' : cfI rs b c ≤ 0 := by simpa using h2
    have : cfI rs a c ≤ 0 := by
      by_cases e1 : cfI rs a b = 0
      · rw [(Zcz rs).eqv a b c e1]; exact h2'
      · by_cases e2 : cfI rs b c = 0
        · have a1 := (Zcz rs).anti b c;have e3 := (Zcz rs).eqv c b a (by omega);have a2 := (Zcz rs).anti a c;have a3 := (Zcz rs).anti a b;omega
        · have := (Zcz rs).trans a b c (by omega) (by omega); omega
    simpa using this
  · have h1 := (Zcz rs).anti a b
    by_cases h : cfI rs a b ≤ 0
    · simp [h]
    · have : cfI rs b a ≤ 0 := by omega
      simp [this]

theorem ZcE (p : Prb) : (rosS p).Perm p.ro := by
  unfold rosS;refine ((Zcl (p.ro.map Roo.r)).map _).trans (List.Perm.of_eq ?_);rw [List.length_map]
  apply List.ext_getElem (by simp)
  intro i h1 h2;simp only [List.getElem_map, List.getElem_range];exact ZaT roo0 (by simpa using h2)
theorem rosS_sorted (p : Prb) : (rosS p).Pairwise fun a b => ¬ cmpR b.r a.r < 0 := by
  unfold rosS;rw [List.pairwise_map];refine List.Pairwise.imp_of_mem (fun {a b} ha hb h => ?_) (sortX_sorted (p.ro.map Roo.r));have ha' := List.mem_range.1 ((Zcl (p.ro.map Roo.r)).mem_iff.1 ha);have hb' := List.mem_range.1 ((Zcl (p.ro.map Roo.r)).mem_iff.1 hb);unfold cfI at h;rw [rs_getD (by simpa using hb'), rs_getD (by simpa using ha')] at h;exact h
theorem rosS_oneN {p : Prb} (hp : (p.ro.map Roo.r).Nodup) {ys : List Roo} (h1 : ys.Perm p.ro) (h2 : ys.Pairwise fun a b => ¬ cmpR b.r a.r < 0) : ys = rosS p :=
  rsc_one Roo.r (l := p.ro) hp (ZcE p) (rosS_sorted p) h1 h2
theorem rosS_one {p : Prb} (hp : prbE p = 0) {ys : List Roo} (h1 : ys.Perm p.ro) (h2 : ys.Pairwise fun a b => ¬ cmpR b.r a.r < 0) : ys = rosS p := rosS_oneN (roos_nodup hp) h1 h2
theorem cmpRoo_pc : PC fun x y : Roo => cmpR x.r y.r := Zce.comap Roo.r
set_option maxRecDepth 100000 in
set_option maxHeartbeats 1000000 in
theorem rooms30_n (p : Prb) (hp : (p.ro.map Roo.r).Nodup) (hl : p.ro.length ≤ 100000) : PCalls Tryz.prog 70 [.d (prbD p)] (.sl none ((rosS p).map rooD)) := by
  refine ZaI Tryz.func70 rfl rfl Tryz.ntmps70 rfl rfl rfl fun F hF => (Zag (Zab ?_));refine Zam.go (ZaS 1 rfl rfl rfl rfl rfl rfl rfl) (Zaa.go (Zad rfl rfl) (Zaf (Zag (Zab (Zaa.go (Zad rfl rfl) (Zaf (Zag (Zag ?_))))))));refine a_anyNil 3 rfl ?_;refine Zab (Zaa.go (Zad rfl rfl) (Zaf (Zat (ZaO (α := Nat × List Roo) (fun q => ⟨51, [(1, (.ptr 1 0 0)), (3, (.d (.sl none (q.2.map rooD)))), (4, (.d (intD (q.1 : Int))))], [(1, [prbB2 25 p])]⟩) (fun q => q.1 ≤ p.ro.length ∧ q.2.Perm (p.ro.take q.1) ∧ q.2.Pairwise fun a b => ¬ cmpR b.r a.r < 0) (fun q => p.ro.length - q.1) ((0, [])) (⟨Nat.zero_le _, by simp, List.Pairwise.nil⟩) (Zaw hF [1] rfl rfl ⟨rfl, rfl, rfl, trivial⟩) ?_))));rintro ⟨k, acc⟩ ⟨hk0, hP, hS⟩;dsimp only at hk0 hP hS ⊢;refine Zag ?_;refine Zag (Zab (Zaa.go (Zac rfl rfl) (Zaa.go (Zai rfl ZaL rfl rfl rfl) (Zaa.go (Zaj rfl rfl rfl on22 rfl) (Zaa.go (ZaD rfl Tryz.underlying22 rfl) (Zaa.go (ZaM rfl rfl rfl) (Zaf (ZaK rfl (fun h10 => ?_) (fun h10 => ?_)))))))))
  · have hk1 : k < p.ro.length := ZaP h10;refine Zas (Zag (Zat (Zag ?_)));have hal : acc.length ≤ 100000 := by rw [hP.length_eq, List.length_take]; omega
    refine Zab (Zaa.go (Zad rfl rfl) (Zaf (Zag (Zat (ZaO (α := Nat) (fun m => ⟨51, [(1, (.ptr 1 0 0)), (3, (.d (.sl none (acc.map rooD)))), (4, (.d (intD (k : Int)))), (5, (.d (intD (m : Int))))], [(1, [prbB2 25 p])]⟩) (fun m => m ≤ acc.length ∧ ∀ y ∈ acc.take m, cmpR y.r p.ro[k].r < 0) (fun m => acc.length - m) (0) (⟨Nat.zero_le _, by simp⟩) (Zaw hF [1] rfl rfl ⟨rfl, rfl, rfl, rfl, trivial⟩) ?_)))));rintro m ⟨hm0, hm⟩;refine Zag (Zag ?_);refine Za2 [[], [], [1], [0, 1, 2], [0, 1, 2, 3], [0, 1, 2, 3, 4], [0, 1, 2, 3, 4], [0, 1, 2, 3, 4, 5, 6], [0, 1, 2, 3, 4, 5, 6, 7], [0, 1, 2, 3, 4, 5, 6, 7, 8], [0, 1, 2, 3, 4], [0, 1, 2, 3, 4, 10], [0, 1, 2, 3, 4], [0, 1, 2, 3, 4, 10, 11, 12], [0, 1, 2, 3, 4, 10, 11, 12, 13], [0, 1, 2, 3, 4, 10, 11, 12, 13, 14], [0, 1, 2, 3, 4, 5, 6, 7, 8, 9, 10, 11, 12, 13, 14, 15], [0, 1, 2, 3, 4, 5, 6, 7, 8, 9, 10, 11, 12, 13, 14, 15, 16], [0, 1, 2, 3, 4, 5, 6, 7, 8, 9, 10, 11, 12, 13, 14, 15, 16, 17]] mixed rfl (dws (Zah [5] [] rfl rfl (fun _ => Zae (Zac rfl rfl)) (Zah [3] [] rfl rfl (fun _ => Zae (Zac rfl rfl)) (Zah [14] [] rfl rfl (fun _ => Zae (ZaD rfl Tryz.underlying22 rfl)) (dwc 3 rfl rfl rfl (dw1 4 rfl rfl (Zaa.go (ZaM rfl rfl rfl) (Zaf ⟨rfl, ?_⟩))))))));refine dw1 5 rfl rfl (Zaa.go (Zac rfl rfl) (Za3 17 rfl (fun h17 => ?_) (fun h17 => ?_)))
    · refine Zaf ⟨rfl, ?_⟩;refine dws ?_
      try have hm1 : m < acc.length := ZaP h17
      refine Zah [3, 17] [] rfl rfl (fun _ => ZaV rfl rfl rfl (Zac rfl rfl)) (Zah [5, 17] [] rfl rfl (fun _ => ZaV rfl rfl rfl (Zac rfl rfl)) (Zah [18, 19, 17] [] rfl rfl (fun _ => ZaV rfl rfl rfl (Zay (m) rfl rfl (rfl) (getm hm1) Tryz.underlying22 rfl sz67 rfl)) (Zah [20, 17] [] rfl rfl (fun _ => ZaV rfl rfl rfl (Zax rfl Zbs rfl rfl rfl)) (Zah [21, 17] [] rfl rfl (fun _ => ZaV rfl rfl rfl (ZaE rfl rfl rw56 rfl)) (Zah [1, 17] [] rfl rfl (fun _ => ZaV rfl rfl rfl (Zai rfl ZaL rfl rfl rfl)) (Zao [23, 17] rfl rfl (fun _ => ZaV rfl rfl rfl (Zaj rfl rfl rfl on22 rfl)) ?_))))));refine Zah [4, 17] [] rfl rfl (fun _ => ZaV rfl rfl rfl (Zac rfl rfl)) (Zah [24, 25, 17] [] rfl rfl (fun _ => ZaV rfl rfl rfl (Zay (k) rfl rfl (rfl) (getm hk1) Tryz.underlying22 rfl sz67 rfl)) (Zah [26, 17] [] rfl rfl (fun _ => ZaV rfl rfl rfl (Zax rfl Zbs rfl rfl rfl)) (Zah [27, 17] [] rfl rfl (fun _ => ZaV rfl rfl rfl (ZaE rfl rfl rw56 rfl)) (dwc 16 rfl rfl rfl (dw1 17 rfl rfl (Zal rfl rfl rfl (Zaa.go (Zan (refcompare_p acc[m].r p.ro[k].r) rfl rfl) (Zaf ⟨rfl, ?_⟩))))))));refine dw1 18 rfl rfl (Zal rfl rfl rfl (Zaa.go (ZaM rfl rfl rfl) (Zaf ⟨rfl, ?_⟩)));refine dw1 19 rfl rfl (Zaa.go (ZaB rfl rfl rfl rfl) (Zaf ⟨rfl, ?_⟩));refine dwe (ZaK rfl (fun h31 => ?_) (fun h31 => ?_))
      · refine Zas (Zat (Zab (Zaa.go (Zac rfl rfl) (Zaa.go (ZaG rfl rfl (wrapS (m + 1) (by omega)) rfl) (Zaa.go (Zad rfl rfl) (Zaf ?_))))));exact ⟨m + 1, ⟨by show m + 1 ≤ _; omega, by rw [List.take_succ_eq_append_getElem hm1]; intro y hy; rcases List.mem_append.1 hy with hy | hy; exact hm y hy; rw [List.mem_singleton.1 hy]; exact h31⟩, by show acc.length - (m + 1) < acc.length - m; omega, Zaw hF [1] rfl (rfl) ⟨rfl, rfl, rfl, rfl, trivial⟩⟩
      · refine ZaQ ?_;have hstop : ∀ y, acc[m]? = some y → ¬ cmpR y.r p.ro[k].r < 0 := by first | (intro y hy; have h3 := (List.getElem?_eq_some_iff.1 hy).1; exact absurd h3 (by have h := h17; omega)) | (intro y hy; rw [List.getElem?_eq_getElem hm1] at hy; injection hy with hy; rw [← hy]; exact h31)
        refine Za2 [[], [], [], [1, 2], [0, 1, 2, 3], [], [5], [], [5, 6, 7], [5, 6, 7, 8], [5, 6, 7, 8, 9], [0, 1, 2, 3, 4, 5, 6, 7, 8, 9, 10], [], [], [12, 13], [0, 1, 2, 3, 4, 5, 6, 7, 8, 9, 10, 11, 12, 13, 14], [0, 1, 2, 3, 4, 5, 6, 7, 8, 9, 10, 11, 12, 13, 14, 15]] mixed rfl (dws (Zbt [] [20] [(34, _)] rfl rfl (fun _ => Zba (ZaJ 20 sl22 rfl rfl rfl rfl rfl rfl rfl rfl)) (.inr ⟨34, _, rfl, rfl, rfl, rfl, rfl⟩) rfl rfl rfl rfl rfl (Zah [3] [] rfl rfl (fun _ => Zae (Zac rfl rfl)) ?_)));refine Zah [5] [] rfl rfl (fun _ => Zae (Zac rfl rfl)) (Zah [35, 36] [] rfl rfl (fun _ => Zae (Zcj (acc) (m) rfl rfl rfl (rfl) (by omega) Tryz.underlying22 sz67 (fun _ => rfl) rfl)) (Zbt [34, 37] [20] [(38, _)] rfl rfl (fun _ => Zba (Zbr (([] : List Roo)) (acc.take m) rfl rfl rfl rfl rfl rfl (fun _ => rfl) sl22 (by simp only [List.length_nil, List.length_take]; omega) rfl rfl rfl rfl)) (.inr ⟨38, _, rfl, rfl, rfl, rfl, rfl⟩) rfl rfl rfl rfl rfl (Zah [1] [] rfl rfl (fun _ => Zae (Zai rfl ZaL rfl rfl rfl)) (Zah [39] [1] rfl rfl (fun _ => Zae (Zaj rfl rfl rfl on22 rfl)) (Zah [4] [] rfl rfl (fun _ => Zae (Zac rfl rfl)) (Zah [40, 41] [] rfl rfl (fun _ => Zae (Zay (k) rfl rfl (rfl) (getm hk1) Tryz.underlying22 rfl sz67 rfl)) (Zah [42] [] rfl rfl (fun _ => Zae (ZaE rfl rfl rw67 rfl)) (Zbt [43] [21] [(44, _)] rfl rfl (fun _ => Zba (ZaJ 21 sl22 rfl rfl rfl rfl rfl rfl rfl rfl)) (.inr ⟨44, _, rfl, rfl, rfl, rfl, rfl⟩) rfl rfl rfl rfl rfl ?_))))))));refine d_effX [34] [38, 44] [20, 21] [(45, _)] rfl rfl (fun _ => Zba (Zbd (([] ++ acc.take m)) ([p.ro[k]]) rfl rfl rfl rfl rfl rfl rfl rfl sl22 (by simp only [List.nil_append, List.length_singleton, List.length_take]; omega) rfl rfl rfl rfl)) (.inr ⟨45, _, rfl, rfl, rfl, rfl, rfl⟩) rfl rfl rfl rfl rfl ?_;refine Zah [3] [] rfl rfl (fun _ => Zae (Zac rfl rfl)) (Zah [5] [] rfl rfl (fun _ => Zae (Zac rfl rfl)) (Zah [46, 47] [] rfl rfl (fun _ => Zae (Zc1 (acc) (m) rfl rfl rfl (rfl) (by omega) Tryz.underlying22 sz67 (fun _ => rfl) rfl)) (dwc 15 rfl rfl rfl (dw1 16 rfl rfl ?_))));refine Zam.go (Zbr ((([] ++ acc.take m) ++ [p.ro[k]])) (acc.drop m) rfl rfl rfl rfl rfl rfl (fun _ => rfl) sl22 (by simp only [List.nil_append, List.length_append, List.length_singleton, List.length_take, List.length_drop]; omega) rfl rfl rfl rfl) ?_;refine Zaf ⟨rfl, ?_⟩;refine dw1 17 rfl rfl (Zaa.go (Zad rfl rfl) (Zaf ⟨rfl, ?_⟩));refine dwe (ZbC (emb := rooD) 3 20 ((([] ++ acc.take m) ++ [p.ro[k]]) ++ acc.drop m) rfl rfl rfl rfl rfl rfl rfl (Zab (Zaa.go (Zac rfl rfl) (Zaa.go (ZaG rfl rfl (wrapS (k + 1) (by omega)) rfl) (Zaa.go (Zad rfl rfl) (Zaf ?_))))));exact ⟨(k + 1, _), ⟨by show k + 1 ≤ _; omega, by show (((([] ++ acc.take m) ++ [p.ro[k]]) ++ acc.drop m) : List Roo).Perm (p.ro.take (k + 1)); rw [List.take_succ_eq_append_getElem hk1, List.nil_append]; exact ins_perm.trans (hP.append_right _), by show (((([] ++ acc.take m) ++ [p.ro[k]]) ++ acc.drop m) : List Roo).Pairwise _; rw [List.nil_append]; exact ins_sorted cmpRoo_pc hS hm hstop⟩, by show p.ro.length - (k + 1) < p.ro.length - k; omega, Zaw hF [1] rfl (rfl) ⟨rfl, rfl, rfl, trivial⟩⟩
    · refine Zaf ⟨rfl, ?_⟩;refine dws ?_
      try have hm1 : m < acc.length := ZaP h17
      refine Zah [3, 17] [] rfl rfl (fun _ => Za4 rfl rfl rfl rfl) (Zah [5, 17] [] rfl rfl (fun _ => Za4 rfl rfl rfl rfl) (Zah [18, 19, 17] [] rfl rfl (fun _ => Za4 rfl rfl rfl rfl) (Zah [20, 17] [] rfl rfl (fun _ => Za4 rfl rfl rfl rfl) (Zah [21, 17] [] rfl rfl (fun _ => Za4 rfl rfl rfl rfl) (Zah [1, 17] [] rfl rfl (fun _ => Za4 rfl rfl rfl rfl) ?_)))));refine Zah [23, 17] [] rfl rfl (fun _ => Za4 rfl rfl rfl rfl) (Zah [4, 17] [] rfl rfl (fun _ => Za4 rfl rfl rfl rfl) (Zah [24, 25, 17] [] rfl rfl (fun _ => Za4 rfl rfl rfl rfl) (Zah [26, 17] [] rfl rfl (fun _ => Za4 rfl rfl rfl rfl) (Zah [27, 17] [] rfl rfl (fun _ => Za4 rfl rfl rfl rfl) (dwc 16 rfl rfl rfl (dw1 17 rfl rfl (Zak rfl rfl rfl rfl (Zaf ⟨rfl, ?_⟩))))))));refine dw1 18 rfl rfl (Zak rfl rfl rfl rfl (Zaf ⟨rfl, ?_⟩));refine dw1 19 rfl rfl (Zaa.go (ZaH rfl rfl rfl rfl) (Zaf ⟨rfl, ?_⟩));refine dwe (Za1 rfl rfl (ZaQ ?_));have hstop : ∀ y, acc[m]? = some y → ¬ cmpR y.r p.ro[k].r < 0 := by first | (intro y hy; have h3 := (List.getElem?_eq_some_iff.1 hy).1; exact absurd h3 (by have h := h17; omega)) | (intro y hy; rw [List.getElem?_eq_getElem hm1] at hy; injection hy with hy; rw [← hy]; exact h31)
      refine Za2 [[], [], [], [1, 2], [0, 1, 2, 3], [], [5], [], [5, 6, 7], [5, 6, 7, 8], [5, 6, 7, 8, 9], [0, 1, 2, 3, 4, 5, 6, 7, 8, 9, 10], [], [], [12, 13], [0, 1, 2, 3, 4, 5, 6, 7, 8, 9, 10, 11, 12, 13, 14], [0, 1, 2, 3, 4, 5, 6, 7, 8, 9, 10, 11, 12, 13, 14, 15]] mixed rfl (dws (Zbt [] [20] [(34, _)] rfl rfl (fun _ => Zba (ZaJ 20 sl22 rfl rfl rfl rfl rfl rfl rfl rfl)) (.inr ⟨34, _, rfl, rfl, rfl, rfl, rfl⟩) rfl rfl rfl rfl rfl (Zah [3] [] rfl rfl (fun _ => Zae (Zac rfl rfl)) ?_)));refine Zah [5] [] rfl rfl (fun _ => Zae (Zac rfl rfl)) (Zah [35, 36] [] rfl rfl (fun _ => Zae (Zcj (acc) (m) rfl rfl rfl (rfl) (by omega) Tryz.underlying22 sz67 (fun _ => rfl) rfl)) (Zbt [34, 37] [20] [(38, _)] rfl rfl (fun _ => Zba (Zbr (([] : List Roo)) (acc.take m) rfl rfl rfl rfl rfl rfl (fun _ => rfl) sl22 (by simp only [List.length_nil, List.length_take]; omega) rfl rfl rfl rfl)) (.inr ⟨38, _, rfl, rfl, rfl, rfl, rfl⟩) rfl rfl rfl rfl rfl (Zah [1] [] rfl rfl (fun _ => Zae (Zai rfl ZaL rfl rfl rfl)) (Zah [39] [1] rfl rfl (fun _ => Zae (Zaj rfl rfl rfl on22 rfl)) (Zah [4] [] rfl rfl (fun _ => Zae (Zac rfl rfl)) (Zah [40, 41] [] rfl rfl (fun _ => Zae (Zay (k) rfl rfl (rfl) (getm hk1) Tryz.underlying22 rfl sz67 rfl)) (Zah [42] [] rfl rfl (fun _ => Zae (ZaE rfl rfl rw67 rfl)) (Zbt [43] [21] [(44, _)] rfl rfl (fun _ => Zba (ZaJ 21 sl22 rfl rfl rfl rfl rfl rfl rfl rfl)) (.inr ⟨44, _, rfl, rfl, rfl, rfl, rfl⟩) rfl rfl rfl rfl rfl ?_))))))));refine d_effX [34] [38, 44] [20, 21] [(45, _)] rfl rfl (fun _ => Zba (Zbd (([] ++ acc.take m)) ([p.ro[k]]) rfl rfl rfl rfl rfl rfl rfl rfl sl22 (by simp only [List.nil_append, List.length_singleton, List.length_take]; omega) rfl rfl rfl rfl)) (.inr ⟨45, _, rfl, rfl, rfl, rfl, rfl⟩) rfl rfl rfl rfl rfl ?_;refine Zah [3] [] rfl rfl (fun _ => Zae (Zac rfl rfl)) (Zah [5] [] rfl rfl (fun _ => Zae (Zac rfl rfl)) (Zah [46, 47] [] rfl rfl (fun _ => Zae (Zc1 (acc) (m) rfl rfl rfl (rfl) (by omega) Tryz.underlying22 sz67 (fun _ => rfl) rfl)) (dwc 15 rfl rfl rfl (dw1 16 rfl rfl ?_))));refine Zam.go (Zbr ((([] ++ acc.take m) ++ [p.ro[k]])) (acc.drop m) rfl rfl rfl rfl rfl rfl (fun _ => rfl) sl22 (by simp only [List.nil_append, List.length_append, List.length_singleton, List.length_take, List.length_drop]; omega) rfl rfl rfl rfl) ?_;refine Zaf ⟨rfl, ?_⟩;refine dw1 17 rfl rfl (Zaa.go (Zad rfl rfl) (Zaf ⟨rfl, ?_⟩));refine dwe (ZbC (emb := rooD) 3 20 ((([] ++ acc.take m) ++ [p.ro[k]]) ++ acc.drop m) rfl rfl rfl rfl rfl rfl rfl (Zab (Zaa.go (Zac rfl rfl) (Zaa.go (ZaG rfl rfl (wrapS (k + 1) (by omega)) rfl) (Zaa.go (Zad rfl rfl) (Zaf ?_))))));exact ⟨(k + 1, _), ⟨by show k + 1 ≤ _; omega, by show (((([] ++ acc.take m) ++ [p.ro[k]]) ++ acc.drop m) : List Roo).Perm (p.ro.take (k + 1)); rw [List.take_succ_eq_append_getElem hk1, List.nil_append]; exact ins_perm.trans (hP.append_right _), by show (((([] ++ acc.take m) ++ [p.ro[k]]) ++ acc.drop m) : List Roo).Pairwise _; rw [List.nil_append]; exact ins_sorted cmpRoo_pc hS hm hstop⟩, by show p.ro.length - (k + 1) < p.ro.length - k; omega, Zaw hF [1] rfl (rfl) ⟨rfl, rfl, rfl, trivial⟩⟩
  · refine ZaQ (Zag (Zab (Zaa.go (Zac rfl rfl) (Zaa.go (Zad rfl rfl) (Zaf (Zav ?_))))));exact ⟨_, [], [], Zaq rfl, rfl, rfl, by rw [rosS_oneN hp (by have h4 := hP; rw [List.take_of_length_le (by have h := h10; omega)] at h4; exact h4) hS], rfl⟩
theorem rooms30_p (p : Prb) (hp : prbE p = 0) (hl : p.ro.length ≤ 100000) : PCalls Tryz.prog 70 [.d (prbD p)] (.sl none ((rosS p).map rooD)) := rooms30_n p (roos_nodup hp) hl
set_option maxRecDepth 100000 in
theorem largest_bad (p : Prb) (hf : FewP p) (hE : prbE p ≠ 0) : PCalls Tryz.prog 15 [.d (prbD p)] (.tup [.sl (some true) [], intD (prbE p)]) := by
  have hx := explain_bad p hf hE;refine ZaI Tryz.func15 rfl rfl Tryz.ntmps15 rfl rfl rfl fun F hF => (Zag (Zab (Zam.go (ZaS 1 rfl rfl rfl rfl rfl rfl rfl) (Zaa.go (Zad rfl rfl) (Zaa.go (Zad rfl rfl) (Zaf (Zag (Zab ?_))))))));refine Zaa.go (Zap rfl rfl rw35 rfl rfl rfl) (Zaa.go (Zan (hx) rfl rfl) (Zaa.go (Zac rfl rfl) (Zaa.go (ZaA rfl rfl rfl) (Zaa.go (ZaA rfl rfl rfl) (Zaa.go (ZaA rfl rfl rfl) (Zaa.go (Zad rfl rfl) (Zaa.go (Zad rfl rfl) (Zaa.go (Zad rfl rfl) ?_))))))));refine Zaf (Zag (Zab (Zaa.go (Zac rfl rfl) (Zaa.go (Zac rfl rfl) (Zaa.go (Zad rfl rfl) (Zaa.go (Zad rfl rfl) (Zaf (Zav ?_))))))));exact ⟨_, [], [], Zaq rfl, rfl, rfl, rfl, rfl⟩
def largeS (p : Prb) : List Int := onIds (ordP p) (explS p).2 (ordP p).length
set_option maxRecDepth 100000 in
theorem Zct (p : Prb) (hf : FewP p) (hE : prbE p = 0) : PCalls Tryz.prog 15 [.d (prbD p)] (.tup [.sl none ((largeS p).map intD), intD 0]) := by
  have hx := explain_ok p hf hE;refine ZaI Tryz.func15 rfl rfl Tryz.ntmps15 rfl rfl rfl fun F hF => (Zag (Zab (Zam.go (ZaS 1 rfl rfl rfl rfl rfl rfl rfl) (Zaa.go (Zad rfl rfl) (Zaa.go (Zad rfl rfl) (Zaf (Zag (Zab ?_))))))));refine Zaa.go (Zap rfl rfl rw35 rfl rfl rfl) (Zaa.go (Zan (hx) rfl rfl) (Zaa.go (Zac rfl rfl) (Zaa.go (ZaA rfl rfl rfl) (Zaa.go (ZaA rfl rfl rfl) (Zaa.go (ZaA rfl rfl rfl) (Zaa.go (Zad rfl rfl) (Zaa.go (Zad rfl rfl) (Zaa.go (Zad rfl rfl) ?_))))))));refine Zaf (Zag (Zab (Zaa.go (Zac rfl rfl) (Zaa.go (Zac rfl rfl) (Zaa.go (Zad rfl rfl) (Zaa.go (Zad rfl rfl) (Zaf (Zav ?_))))))));exact ⟨_, [], [], Zaq rfl, rfl, rfl, rfl, rfl⟩
set_option maxRecDepth 100000 in
theorem order30_p (p : Prb) (g2 : p.it.length ≤ 1000) : PCalls Tryz.prog 33 [.d (prbD p)] (.sl none (((sortO p.it).map Itm.id).map intD)) := by
  have hso := refsorted_p p.it g2;have hSl := Zcb p.it
  obtain ⟨S, hS⟩ : ∃ S, sortO p.it = S := ⟨_, rfl⟩
  rw [hS] at hso hSl ⊢;refine ZaI Tryz.func33 rfl rfl Tryz.ntmps33 rfl rfl rfl fun F hF => (Zag (Zab (Zam.go (ZaS 1 rfl rfl rfl rfl rfl rfl rfl) (Zaa.go (Zad rfl rfl) (Zaf (Zag ?_))))));refine Zab (Zaa.go (Zai rfl ZaU rfl rfl rfl) (Zaa.go (Zaj rfl rfl rfl on23 rfl) (Zaa.go (Zan (hso) rfl rfl) (Zaa.go (Zad rfl rfl) (Zaf (Zag (Zab (Zaa.go (Zad rfl rfl) ?_))))))));refine Zaf (Zag (Zag (Zca 4 900 sl28 rfl rfl rfl rfl (Zab (Zaa.go (Zad rfl rfl) (Zaf (Zat (ZaO (α := Nat × List Int) (fun q => ⟨24, [(3, (.d (.sl none (S.map itmD)))), (4, (.own 900 0 q.2.length)), (5, (.d (intD (q.1 : Int))))], [(900, [.rowD 3 1 (q.2.map intD)])]⟩) (fun q => q.1 ≤ S.length ∧ q.2 = (S.take q.1).map Itm.id) (fun q => S.length - q.1) ((0, [])) (⟨Nat.zero_le _, rfl⟩) (Zaw hF [900] rfl rfl ⟨rfl, rfl, rfl, trivial⟩) ?_))))))));rintro ⟨k, acc⟩ ⟨hk0, hA⟩;dsimp only at hk0 hA ⊢;refine Zag (Zag (Zab (Zaa.go (Zac rfl rfl) (Zaa.go (Zac rfl rfl) (Zaa.go (ZaD rfl Tryz.underlying23 rfl) (Zaa.go (ZaM rfl rfl rfl) (Zaf (ZaK rfl (fun h12 => ?_) (fun h12 => ?_)))))))))
  · have hk1 : k < S.length := ZaP h12;refine Zas (Zag (Zat ?_));have hal : acc.length ≤ 1000 := by rw [hA, List.length_map, List.length_take]; omega
    refine Zab (Zaa.go (Zac rfl rfl) (Zaa.go (Zac rfl rfl) (Zaa.go (Zac rfl rfl) (Zaa.go (Zay (k) rfl rfl (rfl) (getm hk1) Tryz.underlying23 rfl sz64 rfl) (Zaa.go (Zau rfl Zb1 rfl rfl rfl) (Zaa.go (Zaz rfl rfl on3 rfl) ?_))))));refine Zam.go (ZaJ 2 sl28 rfl rfl rfl rfl rfl rfl rfl rfl) (Zam.go (Zbd (acc) ([S[k].id]) rfl rfl rfl rfl rfl rfl rfl rfl sl28 (by simp only [List.length_singleton]; omega) rfl rfl rfl rfl) (Zaa.go (Zad rfl rfl) (Zaf (Zab (Zaa.go (Zac rfl rfl) (Zaa.go (ZaG rfl rfl (wrapS (k + 1) (by omega)) rfl) (Zaa.go (Zad rfl rfl) (Zaf ?_))))))));exact ⟨(k + 1, _), ⟨by show k + 1 ≤ _; omega, by show _ = (S.take (k + 1)).map Itm.id; rw [tk_map hk1, hA]⟩, by show S.length - (k + 1) < S.length - k; omega, Zaw hF [900] rfl (rfl) ⟨rfl, rfl, rfl, trivial⟩⟩
  · refine ZaQ (Zag (ZbC (emb := intD) 4 900 acc rfl rfl rfl rfl rfl rfl rfl (Zab (Zaa.go (Zac rfl rfl) (Zaa.go (Zad rfl rfl) (Zaf (Zav ?_)))))));exact ⟨_, [], [], Zaq rfl, rfl, rfl, by rw [hA, List.take_of_length_le (by have h := h12; omega)], rfl⟩
def without (l : List Int) (x : Int) : List Int := l.filter fun y => decide (y ≠ x)
set_option maxRecDepth 100000 in
theorem without_p (l : List Int) (x : Int) (hl : l.length ≤ 1000) : PCalls Tryz.prog 47 [.d (.sl none (l.map intD)), .d (intD x)] (.sl none ((without l x).map intD)) := by
  refine ZaI Tryz.func47 rfl rfl Tryz.ntmps47 rfl rfl rfl fun F hF => (Zag (Zab (Zaa.go (Zad rfl rfl) (Zaf (Zag (Zab (Zaa.go (Zad rfl rfl) ?_)))))));refine Zaf (Zag (Zag (Zca 5 900 sl28 rfl rfl rfl rfl (Zab (Zaa.go (Zad rfl rfl) (Zaf (Zat (ZaO (α := Nat × List Int) (fun q => ⟨27, [(0, .d (.sl none (l.map intD))), (1, .d (intD x)), (5, (.own 900 0 q.2.length)), (6, (.d (intD (q.1 : Int))))], [(900, [.rowD 3 1 (q.2.map intD)])]⟩) (fun q => q.1 ≤ l.length ∧ q.2 = without (l.take q.1) x) (fun q => l.length - q.1) ((0, [])) (⟨Nat.zero_le _, rfl⟩) (Zaw hF [900] rfl rfl ⟨rfl, rfl, rfl, rfl, trivial⟩) ?_))))))));rintro ⟨k, acc⟩ ⟨hk0, hA⟩;dsimp only at hk0 hA ⊢;refine Zag (Zag (Zab (Zaa.go (Zac rfl rfl) (Zaa.go (Zac rfl rfl) (Zaa.go (ZaD rfl Tryz.underlying28 rfl) (Zaa.go (ZaM rfl rfl rfl) (Zaf (ZaK rfl (fun h10 => ?_) (fun h10 => ?_)))))))))
  · have hk1 : k < l.length := ZaP h10;refine Zas (Zag (Zat (Zag ?_)));have hal : acc.length ≤ 1000 := by rw [hA]; unfold without; have := List.length_filter_le (fun y => decide (y ≠ x)) (l.take k); rw [List.length_take] at this; omega
    refine Zab (Zaa.go (Zac rfl rfl) (Zaa.go (Zac rfl rfl) (Zaa.go (Zay (k) rfl rfl (rfl) (getm hk1) Tryz.underlying28 rfl sz3 rfl) (Zaa.go (Zaz rfl rfl on3 rfl) (Zaa.go (Zac rfl rfl) (Zaa.go (Za0 rfl rfl rfl) (Zaf (ZaK rfl (fun h18 => ?_) (fun h18 => ?_)))))))))
    · refine Zab (Zaa.go (Zac rfl rfl) (Zaa.go (Zac rfl rfl) (Zaa.go (Zac rfl rfl) (Zaa.go (Zay (k) rfl rfl (rfl) (getm hk1) Tryz.underlying28 rfl sz3 rfl) (Zaa.go (Zaz rfl rfl on3 rfl) ?_)))));refine Zam.go (ZaJ 1 sl28 rfl rfl rfl rfl rfl rfl rfl rfl) (Zam.go (Zbd (acc) ([l[k]]) rfl rfl rfl rfl rfl rfl rfl rfl sl28 (by simp only [List.length_singleton]; omega) rfl rfl rfl rfl) (Zaa.go (Zad rfl rfl) (Zaf (Zab (Zaa.go (Zac rfl rfl) (Zaa.go (ZaG rfl rfl (wrapS (k + 1) (by omega)) rfl) (Zaa.go (Zad rfl rfl) (Zaf ?_))))))));exact ⟨(k + 1, _), ⟨by show k + 1 ≤ _; omega, by show _ = without (l.take (k + 1)) x; unfold without; rw [ZcC hk1, if_pos (by simpa using h18), hA]; rfl⟩, by show l.length - (k + 1) < l.length - k; omega, Zaw hF [900] rfl (rfl) ⟨rfl, rfl, rfl, rfl, trivial⟩⟩
    · refine Zas (Zab (Zaa.go (Zac rfl rfl) (Zaa.go (ZaG rfl rfl (wrapS (k + 1) (by omega)) rfl) (Zaa.go (Zad rfl rfl) (Zaf ?_)))));exact ⟨(k + 1, _), ⟨by show k + 1 ≤ _; omega, by show _ = without (l.take (k + 1)) x; unfold without; rw [ZcC hk1, if_neg (by simpa using h18), List.append_nil, hA]; rfl⟩, by show l.length - (k + 1) < l.length - k; omega, Zaw hF [900] rfl (rfl) ⟨rfl, rfl, rfl, rfl, trivial⟩⟩
  · refine ZaQ (Zag (ZbC (emb := intD) 5 900 acc rfl rfl rfl rfl rfl rfl rfl (Zab (Zaa.go (Zac rfl rfl) (Zaa.go (Zad rfl rfl) (Zaf (Zav ?_)))))));exact ⟨_, [], [], Zaq rfl, rfl, rfl, by rw [hA, List.take_of_length_le (by have h := h10; omega)], rfl⟩
end Go.Proofs.YtneihdahboilnaaGreat
/- Layer 30: closures of alone. -/
namespace Go.Proofs.YtneihdahboilnaaGreat
open Go.RowKit

set_option maxRecDepth 100000 in
theorem alone1_c {wb mv : Nat} {nb pb : Nat → Nat} {N : Net} {M : MF} (h : Rep wb mv nb pb N M) {i : Nat} {x : Nd} (hx : N.nd[i]? = some x) : ACalls Tryz.prog 81 [.d (pD (nb i) 0)] (HN M) fun r H' => r = .d (boolD x.on) ∧ H' = HN M := by
  have hxb := h.n i x hx;refine ZaI Tryz.func81 rfl rfl Tryz.ntmps81 rfl rfl rfl fun F hF => (Zag (Zab (Zaa.go (Zad rfl rfl) (Zaf ?_))));refine Zag (Zab (Zaa.go (Zac rfl rfl) (Zaa.go (ZaN rfl rfl) (Zaa.go (Zar rfl ZcW rfl rfl rfl) (Zaa.go (Za7 (f := 40) rfl rfl (hxb) rfl on4 rfl) (Zaa.go (Zad rfl rfl) (Zaf (Zav ?_))))))));exact ⟨_, [40], _, Zaq rfl, rfl, rfl, rfl, rfl⟩
set_option maxRecDepth 100000 in
theorem alone3_c {wb mv : Nat} {nb pb : Nat → Nat} {N : Net} {M : MF} (h : Rep wb mv nb pb N M) (e : Nat × Int) {y : Po} (hy : N.po[e.1]? = some y) (hr : -1000000000000000000 ≤ y.room ∧ y.room ≤ 1000000000000000000) (he : -2000000000000000000 ≤ e.2 ∧ e.2 ≤ 2000000000000000000) : ACalls Tryz.prog 84 [.d (efD pb e)] (HN M) fun r H' => r = .d (boolD (ovP y e.2)) ∧ H' = HN M := by
  have hov := overdrawn_c h hy e.2 hr he;refine ZaI Tryz.func84 rfl rfl Tryz.ntmps84 rfl rfl rfl fun F hF => (Zag (Zab (Zam.go (ZaS 1 rfl rfl rfl rfl rfl rfl rfl) (Zaa.go (Zad rfl rfl) (Zaf (Zag ?_))))));refine Zab (Zaa.go (Zai rfl fi119_0 rfl rfl rfl) (Zaa.go (Zaj rfl rfl rfl on117 rfl) (Zaa.go (Zai rfl fi119_1 rfl rfl rfl) (Zaa.go (Zaj rfl rfl rfl on2 rfl) (Zam.go (Zby hov rfl [40] ⟨rfl, trivial⟩ rfl rfl rfl rfl rfl rfl rfl rfl rfl) (Zaa.go (Zad rfl rfl) (Zaf (Zav ?_))))))));exact ⟨_, [40], _, Zaq rfl, rfl, rfl, rfl, rfl⟩
abbrev HA (wb mv : Nat) (bs : Option (List Nat × Nat)) (L : List (Int × Value)) (M : MF) : Hp := (910, [.blk 98 [.d (pD wb 0)]]) :: HW mv bs L M
set_option maxRecDepth 100000 in
theorem alone2_c {wb mv : Nat} {nb pb : Nat → Nat} {N : Net} {M : MF} (bs : Option (List Nat × Nat)) (h : Rep wb mv nb pb N M) (hn : (idsN N).Nodup) {id : Int} (hid : id ∈ idsN N) : ACalls Tryz.prog 82 [.d (intD id), .ptr 910 0 0] (HA wb mv bs (byL nb (idsN N)) M) fun r H' => r = .d (boolD (!offOf N id)) ∧ H' = HA wb mv bs (byL nb (idsN N)) M := by
  have hwb := h.w;have hil := List.idxOf_lt_length_of_mem hid;have hil2 : (idsN N).idxOf id < N.nd.length := by unfold idsN at hil ⊢; rw [List.length_map] at hil; exact hil
  obtain ⟨z, hz⟩ : ∃ z, N.nd[(idsN N).idxOf id]? = some z := ⟨_, List.getElem?_eq_getElem hil2⟩
  have hgz : N.nd.getD ((idsN N).idxOf id) nd0 = z := by rw [List.getD_eq_getElem?_getD, hz]; rfl
  have hzb := h.n _ z hz;have hby := byL_get (nb := nb) hn hil;rw [List.getElem_idxOf hil] at hby;have hof : (!offOf N id) = z.on := by unfold offOf; rw [hgz, Bool.not_not]
  refine ZaI Tryz.func82 rfl rfl Tryz.ntmps82 rfl rfl rfl fun F hF => (Zag ?_);refine Zab (Zaa.go (Zad rfl rfl) (Zaf (Zag (Zab (Zaa.go (Zaj rfl rfl rfl on98 rfl) (Zaa.go (ZaN rfl rfl) (Zaa.go (Zar rfl fi108_2 rfl rfl rfl) (Zaa.go (Za7 (f := 40) rfl rfl (hwb) rfl on106 rfl) ?_))))))));refine o_rawMap 7 51 0 rfl rfl (Zaa.go (Zac rfl rfl) (Zaa.go (ZbQ (byL nb (idsN N)) id (.pointer none) (pV (nb ((idsN N).idxOf id)) 0) rfl rfl rfl mt106 kt3 za103 hby rfl) (Zaa.go (ZaN rfl rfl) (Zaa.go (Zar rfl ZcW rfl rfl rfl) (Zaa.go (Za7 (f := 40) rfl rfl (hzb) rfl on4 rfl) (Zaa.go (Zad rfl rfl) (Zaf (Zav ?_))))))));exact ⟨_, [910, 40, 50, 51], _, Zaq rfl, rfl, rfl, by rw [hof], rfl⟩
end Go.Proofs.YtneihdahboilnaaGreat
/- Layer 30: parts of rows; the first node that is on. -/
namespace Go.Proofs.YtneihdahboilnaaGreat
open Go.RowKit

section
variable {P : Program} {F : Fr} {s : AS} {d : Nat} {x hi : Operand} {T E : TypeId} {ty : TypeId} {pos : String} {aft : Array Edge} {g : Option (Nat × Bool)}
theorem st_sliceHiN {b n cap kk : Nat} (h : Nat) {kh : IntKind} {ih : Int} (hx : s.ev x = some (.d (.raw (sV b n cap)))) (hhi : s.ev hi = some (.d (.raw (.int kh ih)))) (hh : ih = (h : Int)) (h2 : h ≤ cap) (hT : P.underlying T = some (.slice E)) (hE : sizeTy P E kk = true) (hd : Nat.blt d s.n = true) :
    Zaa P F ⟨some d, .slice T x none (some hi) none, ty, pos, aft, g⟩ s d (.d (.raw (sV b h cap))) :=
  ZaZ _ hd fun _ act w hs => by
    have e := hs.raw hx;subst hh;refine ⟨.slice (if cap = 0 then some ⟨b, 0, none⟩ else (some (⟨b, 0, none⟩ : Addr)).map (·.add (0 * kk))) (h - 0) (cap - 0), by simp only [execOp, e, Option.map_some, Option.map_none, hs.raw hhi, Sem.run_bind, run_slice_hi hT (Zck hE) h2, Result.andThen_ok, Sem.run_pure], ?_⟩
    have : Value.slice (if cap = 0 then some ⟨b, 0, none⟩ else (some (⟨b, 0, none⟩ : Addr)).map (·.add (0 * kk))) (h - 0) (cap - 0) = sV b h cap := by
      split <;> simp [Addr.add]
    rw [this];exact .d (.raw rfl)
end
def ixG {α : Type} (p : α → Bool) (l : List α) : Int := match l.findIdx? p with
  | some k => k
  | none => -1
set_option maxRecDepth 100000 in
theorem idx1_c {wb mv : Nat} {nb pb : Nat → Nat} {N : Net} {M : MF} (h : Rep wb mv nb pb N M) {hd : Hd} {q : List Nat} (hq : rowAt M hd 103 1 (q.map fun i => ptrD (nb i))) (hqn : ∀ i ∈ q, i < N.nd.length) (m : Nat) (hm : m ≤ q.length) (hql : q.length ≤ 100000) :
    ACalls Tryz.prog 48 [.d (hdr hd m), .d (.raw (.func (.func 81) #[] #[]))] (HN M) fun r H' => r = .d (intD (ixG (onN N) (q.take m))) ∧ H' = HN M := by
  have hz : hd = none → m = 0 := fun e => by have := ZbM hq e; omega
  have htl : (q.take m).length = m := by rw [List.length_take]; omega
  refine ZaI Tryz.func48 rfl rfl Tryz.ntmps48 rfl rfl rfl fun F hF => (Zag (Zab (Zaa.go (Zad rfl rfl) (Zaf ?_))));refine Zag (Zag (Zab (Zaa.go (Zac rfl rfl) (Zaa.go (Zcu hz rfl Tryz.underlying104 rfl) (Zaa.go (Zac rfl rfl) (Zaf (Zat (ZaO (α := Nat) (fun k => ⟨19, [(0, .d (hdr hd m)), (1, .d (.raw (.func (.func 81) #[] #[]))), (7, (.d (intD (m : Int)))), (8, (.d (intD (k : Int))))], HN M⟩) (fun k => k ≤ m ∧ ∀ x ∈ (q.take m).take k, onN N x = false) (fun k => m - k) (0) (⟨Nat.zero_le _, by simp⟩) (Zaw hF [40] rfl rfl ⟨rfl, rfl, rfl, rfl, trivial⟩) ?_))))))));rintro k ⟨hk0, hk⟩;refine Zag (Zab (Zaa.go (ZaM rfl rfl rfl) (Zaf (Zag (ZaK rfl (fun h9 => ?_) (fun h9 => ?_))))))
  · have hk1 : k < m := ZaP h9;refine Zas (Zag (Zat (Zag ?_)));have hkq : k < q.length := by omega
    have hkt : k < (q.take m).length := by omega
    obtain ⟨rb, rc, hre⟩ := ZbK hq hkq;have hrow := ZbZ hq hre;have hil := hqn _ (List.getElem_mem hkq)
    obtain ⟨z, hz2⟩ : ∃ z, N.nd[q[k]]? = some z := ⟨_, List.getElem?_eq_getElem hil⟩
    have hal := alone1_c h hz2;have hon : onN N q[k] = z.on := by unfold onN; rw [List.getD_eq_getElem?_getD, hz2]; rfl
    refine Zab (Zaa.go (Zac rfl rfl) (Zaa.go (Zad rfl rfl) (Zaf (Zag ?_))));refine Zab (Zaa.go (Zac rfl rfl) (Zaa.go (Zac rfl rfl) (Zaa.go (Zac rfl rfl) (Zaa.go (Zb0 hre (k) rfl rfl rfl hk1 Tryz.underlying104 sz103 rfl) (Zaa.go (ZcT (f := 40) (e := k) (off := 0) rfl (by omega) rfl (hrow) (getm hkq) rfl on103 rfl) (Zam.go (st_callVD hal rfl [40] ⟨rfl, trivial⟩ rfl rfl rfl rfl rfl rfl rfl rfl rfl) (Zaf (Zbl rfl (fun h16 => ?_) (fun h16 => ?_)))))))))
    · refine Zag (Zab (Zaa.go (Zac rfl rfl) (Zaa.go (Zad rfl rfl) (Zaf (Zav ?_)))));exact ⟨_, [40], _, Zaq rfl, rfl, rfl, retI (by unfold ixG; rw [fidx_at hkt hk (by rw [List.getElem_take, hon]; simpa using h16)]), rfl⟩
    · refine Zas (Zab (Zaa.go (ZaG rfl rfl (wrapS (k + 1) (by omega)) rfl) (Zaa.go (Zac rfl rfl) (Zaf ?_))));exact ⟨k + 1, ⟨by show k + 1 ≤ _; omega, by rw [List.take_succ_eq_append_getElem hkt]; intro y hy; rcases List.mem_append.1 hy with hy | hy; exact hk y hy; rw [List.mem_singleton.1 hy, List.getElem_take]; rw [hon]; simpa using h16⟩, by show m - (k + 1) < m - k; omega, Zaw hF [40] rfl (rfl) ⟨rfl, rfl, rfl, rfl, trivial⟩⟩
  · refine ZaQ (Zag (Zab (Zaa.go (Zad rfl rfl) (Zaf (Zav ?_)))));exact ⟨_, [40], _, Zaq rfl, rfl, rfl, retI (by unfold ixG; rw [fidx_no (fun x hx => hk x (by rw [List.take_of_length_le (by have h := h9; omega)]; exact hx))]), rfl⟩
end Go.Proofs.YtneihdahboilnaaGreat
/- Layer 30: whether some node is on; whether some effect overdraws its pool. -/
namespace Go.Proofs.YtneihdahboilnaaGreat
open Go.RowKit

theorem ixG_nn {α : Type} {p : α → Bool} {l : List α} : (ixG p l ≥ 0) ↔ l.any p = true := by
  unfold ixG
  cases h : l.findIdx? p with
  | none =>
    rw [List.findIdx?_eq_none_iff] at h
    constructor
    · intro h1;have h2 : (-1 : Int) ≥ 0 := h1;omega
    · intro h1;obtain ⟨x, hx, h2⟩ := List.any_eq_true.1 h1;rw [h x hx] at h2; cases h2
  | some k =>
    constructor
    · intro _;obtain ⟨hk, h1, _⟩ := List.findIdx?_eq_some_iff_getElem.1 h;exact List.any_eq_true.2 ⟨l[k], List.getElem_mem hk, h1⟩
    · intro _;show (k : Int) ≥ 0;omega
set_option maxRecDepth 100000 in
theorem cont1_c {wb mv : Nat} {nb pb : Nat → Nat} {N : Net} {M : MF} (h : Rep wb mv nb pb N M) {hd : Hd} {q : List Nat} (hq : rowAt M hd 103 1 (q.map fun i => ptrD (nb i))) (hqn : ∀ i ∈ q, i < N.nd.length) (m : Nat) (hm : m ≤ q.length) (hql : q.length ≤ 100000) :
    ACalls Tryz.prog 80 [.d (hdr hd m), .d (.raw (.func (.func 81) #[] #[]))] (HN M) fun r H' => r = .d (boolD ((q.take m).any (onN N))) ∧ H' = HN M := by
  refine ZaI Tryz.func80 rfl rfl Tryz.ntmps80 rfl rfl rfl fun F hF => (Zag (Zab (Zaa.go (Zad rfl rfl) (Zaf ?_))));refine Zag (Zab (Zaa.go (Zac rfl rfl) (Zaa.go (Zac rfl rfl) (Zam.go (Zby (idx1_c h hq hqn m hm hql) rfl [40] ⟨rfl, trivial⟩ rfl rfl rfl rfl rfl rfl rfl rfl rfl) (Zaa.go (st_geq rfl rfl rfl) (Zaa.go (Zad rfl rfl) (Zaf (Zav ?_))))))));exact ⟨_, [40], _, Zaq rfl, rfl, rfl, retB3 (by rw [Bool.eq_iff_iff, decide_eq_true_eq]; exact ixG_nn), rfl⟩
set_option maxRecDepth 100000 in
theorem idx3_c {wb mv : Nat} {nb pb : Nat → Nat} {N : Net} {M : MF} (h : Rep wb mv nb pb N M) (hw : NetW N) {i : Nat} {x : Nd} (hx : N.nd[i]? = some x) :
    ACalls Tryz.prog 102 [.d (hdr x.eh x.ef.length), .d (.raw (.func (.func 84) #[] #[]))] (HN M) fun r H' => r = .d (intD (ixG (fun e : Nat × Int => ovP (N.po.getD e.1 po0) e.2) x.ef)) ∧ H' = HN M := by
  obtain ⟨hxb, hre, _⟩ := h.nn i x hx;have hxm := List.mem_of_getElem? hx;have hel := (hw.l x hxm).1;have hz := ZbM hre;refine ZaI Tryz.func102 rfl rfl Tryz.ntmps102 rfl rfl rfl fun F hF => (Zag (Zab (Zaa.go (Zad rfl rfl) (Zaf ?_))));refine Zag (Zag (Zab (Zaa.go (Zac rfl rfl) (Zaa.go (Zcu hz rfl Tryz.underlying109 rfl) (Zaa.go (Zac rfl rfl) (Zaf (Zat (ZaO (α := Nat) (fun k => ⟨19, [(0, .d (hdr x.eh x.ef.length)), (1, .d (.raw (.func (.func 84) #[] #[]))), (7, (.d (intD (x.ef.length : Int)))), (8, (.d (intD (k : Int))))], HN M⟩) (fun k => k ≤ x.ef.length ∧ ∀ e ∈ x.ef.take k, (fun e : Nat × Int => ovP (N.po.getD e.1 po0) e.2) e = false) (fun k => x.ef.length - k) (0) (⟨Nat.zero_le _, by simp⟩) (Zaw hF [40] rfl rfl ⟨rfl, rfl, rfl, rfl, trivial⟩) ?_))))))));rintro k ⟨hk0, hk⟩;refine Zag (Zab (Zaa.go (ZaM rfl rfl rfl) (Zaf (Zag (ZaK rfl (fun h9 => ?_) (fun h9 => ?_))))))
  · have hk1 : k < x.ef.length := ZaP h9;refine Zas (Zag (Zat (Zag ?_)));obtain ⟨rb, rc, hree⟩ := ZbK hre hk1;have hrow := ZbZ hre hree;have hjl := (h.e x hxm).1 _ (List.getElem_mem hk1)
    obtain ⟨y, hy⟩ : ∃ y, N.po[x.ef[k].1]? = some y := ⟨_, List.getElem?_eq_getElem hjl⟩
    have hgy : N.po.getD x.ef[k].1 po0 = y := by rw [List.getD_eq_getElem?_getD, hy]; rfl
    have heb := hw.e x hxm _ (List.getElem_mem hk1);have hal := alone3_c h x.ef[k] hy (hw.rm y (List.mem_of_getElem? hy)) ⟨by omega, by omega⟩;refine Zab (Zaa.go (Zac rfl rfl) (Zaa.go (Zad rfl rfl) (Zaf (Zag ?_))));refine Zab (Zaa.go (Zac rfl rfl) (Zaa.go (Zac rfl rfl) (Zaa.go (Zac rfl rfl) (Zaa.go (Zb0 hree (k) rfl rfl rfl hk1 Tryz.underlying109 sz119 rfl) (Zaa.go (st_loadRNS (f := 40) (e := k) rfl (rfl) rfl (hrow) (getm hk1) rfl rw119 rfl) (Zam.go (st_callVD hal rfl [40] ⟨rfl, trivial⟩ rfl rfl rfl rfl rfl rfl rfl rfl rfl) (Zaf (ZaK rfl (fun h16 => ?_) (fun h16 => ?_)))))))))
    · refine Zag (Zab (Zaa.go (Zac rfl rfl) (Zaa.go (Zad rfl rfl) (Zaf (Zav ?_)))));exact ⟨_, [40], _, Zaq rfl, rfl, rfl, retI (by unfold ixG; rw [fidx_at hk1 hk (by show ovP (N.po.getD x.ef[k].1 po0) x.ef[k].2 = true; rw [hgy]; unfold ovP; exact decide_eq_true h16)]), rfl⟩
    · refine Zas (Zab (Zaa.go (ZaG rfl rfl (wrapS (k + 1) (by omega)) rfl) (Zaa.go (Zac rfl rfl) (Zaf ?_))));exact ⟨k + 1, ⟨by show k + 1 ≤ _; omega, by rw [List.take_succ_eq_append_getElem hk1]; intro e he; rcases List.mem_append.1 he with he | he; exact hk e he; rw [List.mem_singleton.1 he]; show ovP (N.po.getD x.ef[k].1 po0) x.ef[k].2 = false; rw [hgy]; unfold ovP; exact decide_eq_false h16⟩, by show x.ef.length - (k + 1) < x.ef.length - k; omega, Zaw hF [40] rfl (rfl) ⟨rfl, rfl, rfl, rfl, trivial⟩⟩
  · refine ZaQ (Zag (Zab (Zaa.go (Zad rfl rfl) (Zaf (Zav ?_)))));exact ⟨_, [40], _, Zaq rfl, rfl, rfl, retI (by unfold ixG; rw [fidx_no (fun e he => hk e (by rw [List.take_of_length_le (by have h := h9; omega)]; exact he))]), rfl⟩
set_option maxRecDepth 100000 in
theorem cont3_c {wb mv : Nat} {nb pb : Nat → Nat} {N : Net} {M : MF} (h : Rep wb mv nb pb N M) (hw : NetW N) {i : Nat} {x : Nd} (hx : N.nd[i]? = some x) :
    ACalls Tryz.prog 83 [.d (hdr x.eh x.ef.length), .d (.raw (.func (.func 84) #[] #[]))] (HN M) fun r H' => r = .d (boolD (x.ef.any fun e : Nat × Int => ovP (N.po.getD e.1 po0) e.2)) ∧ H' = HN M := by
  refine ZaI Tryz.func83 rfl rfl Tryz.ntmps83 rfl rfl rfl fun F hF => (Zag (Zab (Zaa.go (Zad rfl rfl) (Zaf ?_))));refine Zag (Zab (Zaa.go (Zac rfl rfl) (Zaa.go (Zac rfl rfl) (Zam.go (Zby (idx3_c h hw hx) rfl [40] ⟨rfl, trivial⟩ rfl rfl rfl rfl rfl rfl rfl rfl rfl) (Zaa.go (st_geq rfl rfl rfl) (Zaa.go (Zad rfl rfl) (Zaf (Zav ?_))))))));exact ⟨_, [40], _, Zaq rfl, rfl, rfl, retB3 (by rw [Bool.eq_iff_iff, decide_eq_true_eq]; exact ixG_nn), rfl⟩
end Go.Proofs.YtneihdahboilnaaGreat
/- Layer 30: whether an item may go alone. -/
namespace Go.Proofs.YtneihdahboilnaaGreat
open Go.RowKit

set_option maxRecDepth 100000 in
theorem idx2_c {wb mv : Nat} {nb pb : Nat → Nat} {N : Net} {M : MF} (bs : Option (List Nat × Nat)) (h : Rep wb mv nb pb N M) (hn : (idsN N).Nodup) (l : List Int) (hl : l.length ≤ 100000) (hid : ∀ id ∈ l, id ∈ idsN N) :
    ACalls Tryz.prog 90 [.d (.sl none (l.map intD)), .fn 82 [.ptr 910 0 0]] (HA wb mv bs (byL nb (idsN N)) M) fun r H' => r = .d (intD (ixG (fun id => !offOf N id) l)) ∧ H' = HA wb mv bs (byL nb (idsN N)) M := by
  obtain ⟨L, hL⟩ : ∃ L, byL nb (idsN N) = L := ⟨_, rfl⟩
  have ha := fun id hi => alone2_c (id := id) bs h hn hi;rw [hL] at ha ⊢;refine ZaI Tryz.func90 rfl rfl Tryz.ntmps90 rfl rfl rfl fun F hF => (Zag (Zab (Zaa.go (Zad rfl rfl) (Zaf ?_))));refine Zag (Zag (Zab (Zaa.go (Zac rfl rfl) (Zaa.go (ZaD rfl Tryz.underlying28 rfl) (Zaa.go (Zac rfl rfl) (Zaf (Zat (ZaO (α := Nat) (fun k => ⟨19, [(0, .d (.sl none (l.map intD))), (1, .fn 82 [.ptr 910 0 0]), (7, (.d (intD (l.length : Int)))), (8, (.d (intD (k : Int))))], HA wb mv bs L M⟩) (fun k => k ≤ l.length ∧ ∀ x ∈ l.take k, (fun id => !offOf N id) x = false) (fun k => l.length - k) (0) (⟨Nat.zero_le _, by simp⟩) (Zaw hF [910, 40, 50, 51] rfl rfl ⟨rfl, rfl, rfl, rfl, trivial⟩) ?_))))))));rintro k ⟨hk0, hk⟩;refine Zag (Zab (Zaa.go (ZaM rfl rfl rfl) (Zaf (Zag (ZaK rfl (fun h9 => ?_) (fun h9 => ?_))))))
  · have hk1 : k < l.length := ZaP h9;refine Zas (Zag (Zat (Zag (Zab (Zaa.go (Zac rfl rfl) (Zaa.go (Zad rfl rfl) (Zaf (Zag ?_))))))));refine Zab (Zaa.go (Zac rfl rfl) (Zaa.go (Zac rfl rfl) (Zaa.go (Zac rfl rfl) (Zaa.go (Zay (k) rfl rfl (rfl) (getm hk1) Tryz.underlying28 rfl sz3 rfl) (Zaa.go (Zaz rfl rfl on3 rfl) (Zam.go (st_callVD (ha l[k] (hid _ (List.getElem_mem hk1))) rfl [910, 40, 50, 51] ⟨rfl, rfl, rfl, rfl, trivial⟩ rfl rfl rfl rfl rfl rfl rfl rfl rfl) (Zaf (Zbl rfl (fun h16 => ?_) (fun h16 => ?_)))))))))
    · refine Zag (Zab (Zaa.go (Zac rfl rfl) (Zaa.go (Zad rfl rfl) (Zaf (Zav ?_)))));exact ⟨_, [910, 40, 50, 51], _, Zaq rfl, rfl, rfl, retI (by unfold ixG; rw [fidx_at hk1 hk (by simpa using h16)]), rfl⟩
    · refine Zas (Zab (Zaa.go (ZaG rfl rfl (wrapS (k + 1) (by omega)) rfl) (Zaa.go (Zac rfl rfl) (Zaf ?_))));exact ⟨k + 1, ⟨by show k + 1 ≤ _; omega, by rw [List.take_succ_eq_append_getElem hk1]; intro x hx; rcases List.mem_append.1 hx with hx | hx; exact hk x hx; rw [List.mem_singleton.1 hx]; simpa using h16⟩, by show l.length - (k + 1) < l.length - k; omega, Zaw hF [910, 40, 50, 51] rfl (rfl) ⟨rfl, rfl, rfl, rfl, trivial⟩⟩
  · refine ZaQ (Zag (Zab (Zaa.go (Zad rfl rfl) (Zaf (Zav ?_)))));exact ⟨_, [910, 40, 50, 51], _, Zaq rfl, rfl, rfl, retI (by unfold ixG; rw [fidx_no (fun x hx => hk x (by rw [List.take_of_length_le (by have h := h9; omega)]; exact hx))]), rfl⟩
set_option maxRecDepth 100000 in
theorem cont2_c {wb mv : Nat} {nb pb : Nat → Nat} {N : Net} {M : MF} (bs : Option (List Nat × Nat)) (h : Rep wb mv nb pb N M) (hn : (idsN N).Nodup) (l : List Int) (hl : l.length ≤ 100000) (hid : ∀ id ∈ l, id ∈ idsN N) :
    ACalls Tryz.prog 64 [.d (.sl none (l.map intD)), .fn 82 [.ptr 910 0 0]] (HA wb mv bs (byL nb (idsN N)) M) fun r H' => r = .d (boolD (l.any fun id => !offOf N id)) ∧ H' = HA wb mv bs (byL nb (idsN N)) M := by
  refine ZaI Tryz.func64 rfl rfl Tryz.ntmps64 rfl rfl rfl fun F hF => (Zag (Zab (Zaa.go (Zad rfl rfl) (Zaf ?_))));refine Zag (Zab (Zaa.go (Zac rfl rfl) (Zaa.go (Zac rfl rfl) (Zam.go (Zby (idx2_c bs h hn l hl hid) rfl [910, 40, 50, 51] ⟨rfl, rfl, rfl, rfl, trivial⟩ rfl rfl rfl rfl rfl rfl rfl rfl rfl) (Zaa.go (st_geq rfl rfl rfl) (Zaa.go (Zad rfl rfl) (Zaf (Zav ?_))))))));exact ⟨_, [910, 40, 50, 51], _, Zaq rfl, rfl, rfl, retB3 (by rw [Bool.eq_iff_iff, decide_eq_true_eq]; exact ixG_nn), rfl⟩
end Go.Proofs.YtneihdahboilnaaGreat
/- Layer 30: whether an item may go alone. -/
namespace Go.Proofs.YtneihdahboilnaaGreat
open Go.RowKit

section
variable {P : Program} {F : Fr} {s : AS} {d : Nat} {x hi : Operand} {T E : TypeId} {ty : TypeId} {pos : String} {aft : Array Edge} {g : Option (Nat × Bool)}
theorem st_sliceHiH {h : Hd} {b n cap kk : Nat} (he : h = some (b, cap)) (m : Nat) {kh : IntKind} {ih : Int} (hx : s.ev x = some (.d (hdr h n))) (hhi : s.ev hi = some (.d (.raw (.int kh ih)))) (hh : ih = (m : Int)) (h2 : m ≤ cap) (hT : P.underlying T = some (.slice E)) (hE : sizeTy P E kk = true) (hd : Nat.blt d s.n = true) :
    Zaa P F ⟨some d, .slice T x none (some hi) none, ty, pos, aft, g⟩ s d (.d (hdr h m)) := by
  subst he;exact st_sliceHiN m hx hhi hh h2 hT hE hd
end
def plN (N : Net) (e : Nat × Nat) : Bool := ((N.po.getD e.1 po0).q.take e.2).any (onN N)
def aloneN (N : Net) (x : Nd) : Bool := !(x.pl.any (plN N)) && (!(x.it.af.any fun id => !offOf N id) && !(x.ef.any fun e : Nat × Int => ovP (N.po.getD e.1 po0) e.2))
theorem al_pl {N : Net} {x : Nd} (h : x.pl.any (plN N) = true) : aloneN N x = false := by unfold aloneN; rw [h]; rfl
theorem al_af {N : Net} {x : Nd} (h0 : x.pl.any (plN N) = false) (h : (x.it.af.any fun id => !offOf N id) = true) : aloneN N x = false := by unfold aloneN; rw [h0, h]; rfl
theorem al_ef {N : Net} {x : Nd} (h0 : x.pl.any (plN N) = false) (h : (x.it.af.any fun id => !offOf N id) = false) : aloneN N x = !(x.ef.any fun e : Nat × Int => ovP (N.po.getD e.1 po0) e.2) := by unfold aloneN; rw [h0, h]; simp
set_option maxRecDepth 100000 in
set_option maxHeartbeats 1000000 in
theorem alone_c {wb mv : Nat} {nb pb : Nat → Nat} {N : Net} {M : MF} (bs : Option (List Nat × Nat)) (h : Rep wb mv nb pb N M) (hw : NetW N) {i : Nat} {x : Nd} (hx : N.nd[i]? = some x) :
    ACalls Tryz.prog 50 [.d (pD wb 0), .d (pD (nb i) 0)] (HW mv bs (byL nb (idsN N)) M) fun r H' => r = .d (boolD (aloneN N x)) ∧ H' = HW mv bs (byL nb (idsN N)) M := by
  have hxm := List.mem_of_getElem? hx;obtain ⟨hxb, hre, hrp⟩ := h.nn i x hx;have hpz := ZbM hrp;obtain ⟨_, hpl, hafl⟩ := hw.l x hxm;have hxe := h.e x hxm;have hxp := hw.p x hxm;have hc2 := cont2_c bs h hw.i x.it.af (by omega) (hw.a x hxm);have hc3 := cont3_c h hw hx
  obtain ⟨L, hL⟩ : ∃ L, byL nb (idsN N) = L := ⟨_, rfl⟩
  rw [hL] at hc2 ⊢;refine ZaI Tryz.func50 rfl rfl Tryz.ntmps50 rfl rfl rfl fun F hF => (Zag (Zab (Zam.go (ZaS 910 rfl rfl rfl rfl rfl rfl rfl) (Zaa.go (Zad rfl rfl) (Zaf (Zag (Zag (Zab ?_))))))));refine Zaa.go (Zac rfl rfl) (Zaa.go (ZaN rfl rfl) (Zaa.go (Zar rfl fi112_2 rfl rfl rfl) (Zaa.go (Za7 (f := 40) rfl rfl (hxb) rfl on110 rfl) (Zaa.go (Zcu hpz rfl Tryz.underlying110 rfl) (Zaa.go (Zac rfl rfl) (Zaf (Zat (ZaO (α := Nat) (fun k => ⟨39, [(1, .d (pD (nb i) 0)), (2, (.ptr 910 0 0)), (10, (.d (hdr x.ph x.pl.length))), (11, (.d (intD (x.pl.length : Int)))), (12, (.d (intD (k : Int))))], HA wb mv bs L M⟩) (fun k => k ≤ x.pl.length ∧ ∀ e ∈ x.pl.take k, plN N e = false) (fun k => x.pl.length - k) (0) (⟨Nat.zero_le _, by simp⟩) (Zaw hF [910, 40, 50, 51] rfl rfl ⟨rfl, rfl, rfl, rfl, rfl, trivial⟩) ?_))))))));rintro k ⟨hk0, hkb⟩;refine Zag (Zab (Zaa.go (ZaM rfl rfl rfl) (Zaf (Zag (ZaK rfl (fun h13 => ?_) (fun h13 => ?_))))))
  · have hk1 : k < x.pl.length := ZaP h13;refine Zas (Zag (Zat (Zag ?_)));obtain ⟨eb, ec, hee⟩ := ZbK hrp hk1;have hrow := ZbZ hrp hee;have hjl : x.pl[k].1 < N.po.length := hxe.2 _ (List.getElem_mem hk1)
    obtain ⟨y, hy⟩ : ∃ y, N.po[x.pl[k].1]? = some y := ⟨_, List.getElem?_eq_getElem hjl⟩
    have hgy : N.po.getD x.pl[k].1 po0 = y := by rw [List.getD_eq_getElem?_getD, hy]; rfl
    have hym := List.mem_of_getElem? hy;obtain ⟨hyb, hyq⟩ := h.pp _ y hy;have hpk := hxp _ (List.getElem_mem hk1);rw [hgy] at hpk;obtain ⟨qb, qc, hqe⟩ := ZbK hyq hpk.1;have hqc : y.q.length ≤ qc := by have h1 := hyq; rw [hqe] at h1; have h2 := h1.1; rw [List.length_map] at h2; exact h2
    have hcn := cont1_c h hyq (h.q y hym) x.pl[k].2 (by omega) (by have h1 := hw.ql y hym; omega);refine Zab (Zaa.go (Zb0 hee (k) rfl rfl rfl hk1 Tryz.underlying110 sz165 rfl) ?_);refine Zaa.go (st_loadRNS (f := 40) (e := k) rfl (rfl) rfl (hrow) (getm hk1) rfl rw165 rfl) (Zam.go (ZaX 911 zl165 rfl rfl rfl rfl) (Zam.go (ZaF rfl rfl rfl rfl rfl rfl rfl sz165) (Zaf (Zag (Za2 [[], [0], [0, 1], [0, 1, 2], [0, 1, 2, 3], [], [5], [0, 1, 2, 3, 4, 5, 6], [0, 1, 2, 3, 4, 5, 6, 7]] mixed rfl (dws (Zah [6] [] rfl rfl (fun _ => Zae (Zai rfl fi165_0 rfl rfl rfl)) (Zah [16] [911] rfl rfl (fun _ => Zae (Zaj rfl rfl rfl on117 rfl)) ?_))))))));refine Zah [17] [] rfl rfl (fun _ => Zae (ZaN rfl rfl)) (Zah [18] [] rfl rfl (fun _ => Zae (Zar rfl fi121_3 rfl rfl rfl)) (Zah [19] [40] rfl rfl (fun _ => Zae (Za7 (f := 40) rfl rfl (hyb) rfl on104 rfl)) (Zah [6] [] rfl rfl (fun _ => Zae (Zai rfl fi165_1 rfl rfl rfl)) (Zah [21] [911] rfl rfl (fun _ => Zae (Zaj rfl rfl rfl on3 rfl)) (dwc 7 rfl rfl rfl (dw1 8 rfl rfl (Zaa.go (st_sliceHiH hqe x.pl[k].2 rfl rfl rfl (by omega) Tryz.underlying104 sz103 rfl) (Zaf ⟨rfl, ?_⟩))))))));refine dw1 9 rfl rfl (Zam.go (Zby hcn rfl [40] ⟨rfl, trivial⟩ rfl rfl rfl rfl rfl rfl rfl rfl rfl) (Zaf ⟨rfl, ?_⟩));refine dwe (Zbl rfl (fun h24 => ?_) (fun h24 => ?_))
    · refine Zag (Zab (Zaa.go (Zad rfl rfl) (Zaf (Zav ?_))));exact ⟨_, [40, 50, 51], _, Zaq rfl, rfl, rfl, by rw [al_pl (List.any_eq_true.2 ⟨_, List.getElem_mem hk1, by unfold plN; rw [hgy]; simpa using h24⟩)], rfl⟩
    · refine Zas (Zab (Zaa.go (ZaG rfl rfl (wrapS (k + 1) (by omega)) rfl) (Zaa.go (Zac rfl rfl) (Zaf ?_))));exact ⟨k + 1, ⟨by show k + 1 ≤ _; omega, by rw [List.take_succ_eq_append_getElem hk1]; intro e he; rcases List.mem_append.1 he with he | he; exact hkb e he; rw [List.mem_singleton.1 he]; unfold plN; rw [hgy]; simpa using h24⟩, by show x.pl.length - (k + 1) < x.pl.length - k; omega, Zaw hF [910, 40, 50, 51] rfl (rfl) ⟨rfl, rfl, rfl, rfl, rfl, trivial⟩⟩
  · refine ZaQ (Zag (Zag ?_));have hp0 : x.pl.any (plN N) = false := by rw [List.any_eq_false]; intro e he; have e1 : k = x.pl.length := (by have h := h13; omega); rw [e1, List.take_length] at hkb; rw [hkb e he]; simp
    refine Zab ?_;refine Zaa.go (Zac rfl rfl) (Zaa.go (ZaN rfl rfl) (Zaa.go (Zar rfl fi112_0 rfl rfl rfl) (Zaa.go (Zar rfl fi91_5 rfl rfl rfl) (Zaa.go (Za7 (f := 40) rfl rfl (hxb) rfl on28 rfl) (Zaa.go (Zdd rfl rfl) (Zam.go (Zby hc2 rfl [910, 40, 50, 51] ⟨rfl, rfl, rfl, rfl, trivial⟩ rfl rfl rfl rfl rfl rfl rfl rfl rfl) (Zaf (Zbl rfl (fun h32 => ?_) (fun h32 => ?_)))))))))
    · refine Zag (Zab (Zaa.go (Zad rfl rfl) (Zaf (Zav ?_))));exact ⟨_, [40, 50, 51], _, Zaq rfl, rfl, rfl, by rw [al_af hp0 (by simpa using h32)], rfl⟩
    · refine Zas (Zag (Zab ?_));refine Zaa.go (Zac rfl rfl) (Zaa.go (ZaN rfl rfl) (Zaa.go (Zar rfl fi112_1 rfl rfl rfl) (Zaa.go (Za7 (f := 40) rfl rfl (hxb) rfl on109 rfl) (Zam.go (Zby hc3 rfl [40] ⟨rfl, trivial⟩ rfl rfl rfl rfl rfl rfl rfl rfl rfl) (Zaa.go (Zbf rfl rfl) (Zaa.go (Zad rfl rfl) (Zaf (Zav ?_))))))));exact ⟨_, [40, 50, 51], _, Zaq rfl, rfl, rfl, by rw [al_ef hp0 (by simpa using h32)], rfl⟩
end Go.Proofs.YtneihdahboilnaaGreat
/- Layer 30: the closure of Gross. -/
namespace Go.Proofs.YtneihdahboilnaaGreat
open Go.RowKit

abbrev HG (wb mv : Nat) (bs : Option (List Nat × Nat)) (L : List (Int × Value)) (M : MF) : Hp := (920, [.blk 98 [.d (pD wb 0)]]) :: HW mv bs L M
set_option maxRecDepth 100000 in
theorem gross1_c {wb mv : Nat} {nb pb : Nat → Nat} {N : Net} {M : MF} (bs : Option (List Nat × Nat)) (h : Rep wb mv nb pb N M) (hw : NetW N) {i : Nat} {x : Nd} (hx : N.nd[i]? = some x) :
    ACalls Tryz.prog 49 [.d (pD (nb i) 0), .ptr 920 0 0] (HG wb mv bs (byL nb (idsN N)) M) fun r H' => r = .d (boolD (x.on && aloneN N x)) ∧ H' = HG wb mv bs (byL nb (idsN N)) M := by
  have hxb := h.n i x hx;have hal := alone_c bs h hw hx
  obtain ⟨L, hL⟩ : ∃ L, byL nb (idsN N) = L := ⟨_, rfl⟩
  rw [hL] at hal ⊢;refine ZaI Tryz.func49 rfl rfl Tryz.ntmps49 rfl rfl rfl fun F hF => (Zag (Zab (Zaa.go (Zad rfl rfl) ?_)));refine Zaf (Zag (Zab (Zaa.go (Zac rfl rfl) (Zaa.go (ZaN rfl rfl) (Zaa.go (Zar rfl ZcW rfl rfl rfl) (Zaa.go (Za7 (f := 40) rfl rfl (hxb) rfl on4 rfl) (Zaa.go (Zac rfl rfl) (o_splitB 8 rfl (fun h8 => ?_) (fun h8 => ?_)))))))))
  · refine Zal rfl rfl rfl ?_;refine Zaa.go (Zaj rfl rfl rfl on98 rfl) (Zal rfl rfl rfl (Zaa.go (Zac rfl rfl) (Zal rfl rfl rfl (Zam.go (Zby hal rfl [40, 50, 51] ⟨rfl, rfl, rfl, trivial⟩ rfl rfl rfl rfl rfl rfl rfl rfl rfl) (Zaa.go (ZaB rfl rfl rfl rfl) (Zaa.go (Zad rfl rfl) (Zaf (Zav ?_))))))));exact ⟨_, [920, 40, 50, 51], _, Zaq rfl, rfl, rfl, by rcases Bool.eq_false_or_eq_true x.on with e | e <;> rw [e] at h8 ⊢ <;> first | rfl | (simp at h8), rfl⟩
  · refine Zak rfl rfl rfl rfl (Zak rfl rfl rfl rfl (Zak rfl rfl rfl rfl (Zaa.go (ZaH rfl rfl rfl rfl) (Zaa.go (Zad rfl rfl) (Zaf (Zav ?_))))));exact ⟨_, [920, 40, 50, 51], _, Zaq rfl, rfl, rfl, by rcases Bool.eq_false_or_eq_true x.on with e | e <;> rw [e] at h8 ⊢ <;> first | rfl | (simp at h8), rfl⟩
def groN (N : Net) (i : Nat) : Bool := (N.nd.getD i nd0).on && aloneN N (N.nd.getD i nd0)
set_option maxRecDepth 100000 in
theorem idxG_c {wb mv : Nat} {nb pb : Nat → Nat} {N : Net} {M : MF} (bs : Option (List Nat × Nat)) (h : Rep wb mv nb pb N M) (hw : NetW N) :
    ACalls Tryz.prog 48 [.d (hdr N.nh N.nd.length), .fn 49 [.ptr 920 0 0]] (HG wb mv bs (byL nb (idsN N)) M) fun r H' => r = .d (intD (ixG (groN N) (List.range N.nd.length))) ∧ H' = HG wb mv bs (byL nb (idsN N)) M := by
  have hnr : rowAt M N.nh pnT 1 ((List.range N.nd.length).map fun i => ptrD (nb i)) := h.rs.1 .n;have hz : N.nh = none → N.nd.length = 0 := fun e => by have h1 := ZbM hnr e; rw [List.length_range] at h1; exact h1
  have hnl := hw.n.1;have hgr := fun i x hx => gross1_c (i := i) (x := x) bs h hw hx
  obtain ⟨L, hL⟩ : ∃ L, byL nb (idsN N) = L := ⟨_, rfl⟩
  rw [hL] at hgr ⊢;refine ZaI Tryz.func48 rfl rfl Tryz.ntmps48 rfl rfl rfl fun F hF => (Zag (Zab (Zaa.go (Zad rfl rfl) (Zaf ?_))));refine Zag (Zag (Zab (Zaa.go (Zac rfl rfl) (Zaa.go (Zcu hz rfl Tryz.underlying104 rfl) (Zaa.go (Zac rfl rfl) (Zaf (Zat (ZaO (α := Nat) (fun k => ⟨19, [(0, .d (hdr N.nh N.nd.length)), (1, .fn 49 [.ptr 920 0 0]), (7, (.d (intD (N.nd.length : Int)))), (8, (.d (intD (k : Int))))], HG wb mv bs L M⟩) (fun k => k ≤ N.nd.length ∧ ∀ x ∈ (List.range N.nd.length).take k, groN N x = false) (fun k => N.nd.length - k) (0) (⟨Nat.zero_le _, by simp⟩) (Zaw hF [920, 40, 50, 51] rfl rfl ⟨rfl, rfl, rfl, rfl, trivial⟩) ?_))))))));rintro k ⟨hk0, hk⟩;refine Zag (Zab (Zaa.go (ZaM rfl rfl rfl) (Zaf (Zag (ZaK rfl (fun h9 => ?_) (fun h9 => ?_))))))
  · have hk1 : k < N.nd.length := ZaP h9;refine Zas (Zag (Zat (Zag ?_)));have hkt : k < (List.range N.nd.length).length := by rw [List.length_range]; exact hk1
    obtain ⟨rb, rc, hre⟩ := ZbK hnr hkt;have hrow := ZbZ hnr hre
    obtain ⟨z, hz2⟩ : ∃ z, N.nd[k]? = some z := ⟨_, List.getElem?_eq_getElem hk1⟩
    have hal := hgr k z hz2;have hon : groN N k = (z.on && aloneN N z) := by unfold groN; rw [List.getD_eq_getElem?_getD, hz2]; rfl
    refine Zab (Zaa.go (Zac rfl rfl) ?_);refine Zaa.go (Zad rfl rfl) (Zaf (Zag (Zab (Zaa.go (Zac rfl rfl) (Zaa.go (Zac rfl rfl) (Zaa.go (Zac rfl rfl) (Zaa.go (Zb0 hre (k) rfl rfl rfl hk1 Tryz.underlying104 sz103 rfl) (Zaa.go (ZcT (f := 40) (e := k) (off := 0) rfl (by omega) rfl (hrow) ((by rw [List.getElem?_map, List.getElem?_range hk1]; rfl)) rfl on103 rfl) ?_))))))));refine Zam.go (st_callVD hal rfl [920, 40, 50, 51] ⟨rfl, rfl, rfl, rfl, trivial⟩ rfl rfl rfl rfl rfl rfl rfl rfl rfl) (Zaf (Zbl rfl (fun h16 => ?_) (fun h16 => ?_)))
    · refine Zag (Zab (Zaa.go (Zac rfl rfl) (Zaa.go (Zad rfl rfl) (Zaf (Zav ?_)))));exact ⟨_, [920, 40, 50, 51], _, Zaq rfl, rfl, rfl, retI (by unfold ixG; rw [fidx_at hkt hk (by rw [List.getElem_range, hon]; simpa using h16)]), rfl⟩
    · refine Zas (Zab (Zaa.go (ZaG rfl rfl (wrapS (k + 1) (by omega)) rfl) (Zaa.go (Zac rfl rfl) (Zaf ?_))));exact ⟨k + 1, ⟨by show k + 1 ≤ _; omega, by rw [List.take_succ_eq_append_getElem hkt]; intro y hy; rcases List.mem_append.1 hy with hy | hy; exact hk y hy; rw [List.mem_singleton.1 hy, List.getElem_range, hon]; simpa using h16⟩, by show N.nd.length - (k + 1) < N.nd.length - k; omega, Zaw hF [920, 40, 50, 51] rfl (rfl) ⟨rfl, rfl, rfl, rfl, trivial⟩⟩
  · refine ZaQ (Zag (Zab (Zaa.go (Zad rfl rfl) (Zaf (Zav ?_)))));exact ⟨_, [920, 40, 50, 51], _, Zaq rfl, rfl, rfl, retI (by unfold ixG; rw [fidx_no (fun x hx => hk x (by rw [List.take_of_length_le (by rw [List.length_range]; have h := h9; omega)]; exact hx))]), rfl⟩
end Go.Proofs.YtneihdahboilnaaGreat
/- Layer 30: Gross where no item may go alone. -/
namespace Go.Proofs.YtneihdahboilnaaGreat
open Go.RowKit

theorem onN_ers (N : Net) : onN (ersN N) = onN N := funext fun i => by unfold onN; rw [ers_getN]; rfl
theorem offOf_ers (N : Net) : offOf (ersN N) = offOf N := funext fun e => by unfold offOf; rw [ers_getN, ers_ids]; rfl
theorem alone_ers (N : Net) (x : Nd) : aloneN (ersN N) (ers x) = aloneN N x := by
  have h1 : plN (ersN N) = plN N := funext fun e => by unfold plN; rw [ers_getP, onN_ers]; rfl
  have h2 : (fun e : Nat × Int => ovP ((ersN N).po.getD e.1 po0) e.2) = fun e => ovP (N.po.getD e.1 po0) e.2 := funext fun e => by rw [ers_getP]; rfl
  unfold aloneN;rw [h1, offOf_ers];show (!(x.pl.any (plN N)) && (!(x.it.af.any fun id => !offOf N id) && !(x.ef.any fun e : Nat × Int => ovP ((ersN N).po.getD e.1 po0) e.2))) = _;rw [h2]
theorem groN_ers (N : Net) : groN (ersN N) = groN N := funext fun i => by unfold groN; rw [ers_getN, alone_ers]; rfl
set_option maxRecDepth 100000 in
theorem gross_bad (p : Prb) (hf : FewP p) (hE : prbE p ≠ 0) : PCalls Tryz.prog 25 [.d (prbD p)] (.tup [.sl (some true) [], intD (prbE p)]) := by
  have hbu := build_bad p hf hE;refine ZaI Tryz.func25 rfl rfl Tryz.ntmps25 rfl rfl rfl fun F hF => (Zag (Zab (Zam.go (ZaS 1 rfl rfl rfl rfl rfl rfl rfl) (Zaa.go (Zad rfl rfl) ?_))));refine Zaa.go (Zad rfl rfl) (Zaf (Zag (Zab (Zaa.go (Zap rfl rfl rw35 rfl rfl rfl) (Zam.go (Zby hbu rfl [] trivial rfl rfl rfl rfl rfl rfl rfl rfl rfl) (Zaa.go (Zac rfl rfl) (Zaa.go (ZaA rfl rfl rfl) (Zaa.go (ZaA rfl rfl rfl) ?_))))))));refine Zam.go (ZaX 2 zl98 rfl rfl rfl rfl) (Zam.go (ZaF rfl rfl rfl rfl rfl rfl rfl sz98) (Zaa.go (Zad rfl rfl) (Zaf (Zag (Zag (Zab (Zaa.go (Zac rfl rfl) (Zaa.go (Za0 rfl rfl rfl) ?_))))))));refine Zaf (ZaW rfl ((by simpa using hE)) (Zag (Zab (Zaa.go (Zac rfl rfl) (Zaa.go (Zad rfl rfl) (Zaa.go (Zad rfl rfl) (Zaf (Zav ?_))))))));exact ⟨_, [], [], Zaq rfl, rfl, rfl, rfl, rfl⟩
set_option maxRecDepth 100000 in
set_option maxHeartbeats 1000000 in
theorem gross_none (p : Prb) (hf : FewP p) (hE : prbE p = 0) (hg : ixG (groN (netS (rosS p) (ordP p) fun _ => true)) (List.range (ordP p).length) = -1) : PCalls Tryz.prog 25 [.d (prbD p)] (.tup [.sl (some true) [], intD 0]) := by
  have hbu := build_ok p hf hE;have hsm := sml_P hf hE;rw [netP_S] at hbu
  obtain ⟨its, hits⟩ : ∃ its, ordP p = its := ⟨_, rfl⟩
  obtain ⟨ros, hros⟩ : ∃ ros, rosS p = ros := ⟨_, rfl⟩
  rw [hits, hros] at hbu hsm hg;have hl := hsm.l;refine ZaI Tryz.func25 rfl rfl Tryz.ntmps25 rfl rfl rfl fun F hF => ?_;refine Zag (Zab (Zam.go (ZaS 1 rfl rfl rfl rfl rfl rfl rfl) (Zaa.go (Zad rfl rfl) (Zaa.go (Zad rfl rfl) (Zaf (Zag (Zab (Zaa.go (Zap rfl rfl rw35 rfl rfl rfl) ?_))))))));refine o_step (st_callX hbu rfl [40, 50, 51] ⟨rfl, rfl, rfl, trivial⟩ rfl rfl rfl rfl (fun r H' ⟨_, _, _, _, _, _, _, e1, e2, _⟩ => by subst e1 e2; exact ⟨rfl, rfl, rfl⟩) rfl) rfl ?_; rintro _ ⟨r, H', ⟨wb, mv, nb, pb, N, M, bs, rfl, rfl, hR, hN⟩, rfl⟩;refine Zaa.go (Zac rfl rfl) (Zaa.go (ZaA rfl rfl rfl) (Zaa.go (ZaA rfl rfl rfl) (Zam.go (ZaX 920 zl98 rfl rfl rfl rfl) (Zam.go (ZaF rfl rfl rfl rfl rfl rfl rfl sz98) (Zaa.go (Zad rfl rfl) (Zaf ?_))))));refine Zag (Zag (Zab (Zaa.go (Zac rfl rfl) (Zaa.go (Za0 rfl rfl rfl) (Zaf (Za1 rfl (rfl) (Zas (Zag ?_))))))));have hids : idsN N = its.map Itm.id := by rw [← ers_ids, hN, S_ids]
  have hw := W_ers (N := N) (by rw [hN]; exact S_w hsm _);have hix := idxG_c bs hR hw;have hz : N.nh = none → N.nd.length = 0 := fun e => by have hnr : rowAt M N.nh pnT 1 ((List.range N.nd.length).map fun i => ptrD (nb i)) := hR.rs.1 .n; have h1 := ZbM hnr e; rw [List.length_range] at h1; exact h1
  have hg2 : ixG (groN N) (List.range N.nd.length) = -1 := by rw [← groN_ers, hN, S_len hN]; exact hg
  rw [hg2] at hix
  obtain ⟨L, hL⟩ : ∃ L, byL nb (idsN N) = L := ⟨_, rfl⟩
  rw [hL] at hix ⊢;have hwb := hR.w;refine Zab (Zaa.go (Zad rfl rfl) (Zaf (Zat (ZaO (α := Unit) (fun q => ⟨66, [(4, (.ptr 920 0 0)), (6, (.d (.sl (some true) [])))], HG wb mv bs L M⟩) (fun q => True) (fun q => 0) (()) (trivial) (Zaw hF [920, 40, 50, 51] rfl rfl ⟨rfl, rfl, trivial⟩) ?_))));rintro _ _;refine Zat (Zag (Zab (Zaa.go (Zaj rfl rfl rfl on98 rfl) (Zaa.go (ZaN rfl rfl) (Zaa.go (Zar rfl ZcD rfl rfl rfl) (Zaa.go (Za7 (f := 40) rfl rfl (hwb) rfl on104 rfl) ?_))))));refine Zaa.go (Zdd rfl rfl) (Zam.go (Zby hix rfl [920, 40, 50, 51] ⟨rfl, rfl, rfl, rfl, trivial⟩ rfl rfl rfl rfl rfl rfl rfl rfl rfl) (Zaa.go (Zad rfl rfl) (Zaf (Zag (Zag (Zab (Zaa.go (Zac rfl rfl) (Zaa.go (ZaM rfl rfl rfl) ?_))))))));refine Zaf (ZaW rfl (rfl) (Zag (Zab (Zaa.go (Zac rfl rfl) (Zaa.go (Zad rfl rfl) (Zaa.go (Zad rfl rfl) (Zaf (Zav ?_))))))));exact ⟨_, [], [], Zaq rfl, rfl, rfl, rfl, rfl⟩
end Go.Proofs.YtneihdahboilnaaGreat
