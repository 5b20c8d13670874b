/- Layer 30: a problem with other owners, members and ids. Plain laws. -/
import Derived.Test.YtneihdahboilnaaGreatMg24
namespace Go.Proofs.YtneihdahboilnaaGreat
open Go.RowKit
def sfx (s : List UInt8) : List UInt8 := if s = [] then [] else s ++ [126]
def apR (r : Rsc) : Rsc := ⟨r.k, ⟨sfx r.acc.o, r.acc.k, r.acc.a⟩, sfx r.f, sfx r.t⟩
def apP (x : Post) : Post := ⟨⟨x.acc.o ++ [126], x.acc.k, x.acc.a⟩, x.d⟩
def apY (x : Pay) : Pay := ⟨x.f ++ [126], x.t ++ [126], x.n⟩
def apI (x : Itm) : Itm := ⟨x.id + 1000000, x.pr, x.sq + 1000000, x.po.map apP, x.pa.map apY, x.af.map fun a => a + 1000000⟩
def apO (x : Roo) : Roo := ⟨apR x.r, x.n⟩
def apB (p : Prb) : Prb := ⟨p.ro.map apO, p.it.map apI⟩
structure Unm (p : Prb) : Prop where
  r : ∀ x ∈ p.ro, (126 : UInt8) ∉ x.r.acc.o ∧ (126 : UInt8) ∉ x.r.f ∧ (126 : UInt8) ∉ x.r.t
  i : ∀ x ∈ p.it, x.id < 1000000 ∧ x.sq < 1000000 ∧ (∀ y ∈ x.po, (126 : UInt8) ∉ y.acc.o) ∧ ∀ y ∈ x.pa, (126 : UInt8) ∉ y.f ∧ (126 : UInt8) ∉ y.t
theorem app_inj {s t : List UInt8} : s ++ [126] = t ++ [126] ↔ s = t := ⟨List.append_cancel_right, fun h => by rw [h]⟩
theorem sfx_ne {s : List UInt8} (h : s ≠ []) : sfx s = s ++ [126] := if_neg h
theorem mem_til (s : List UInt8) : (126 : UInt8) ∈ s ++ [126] := List.mem_append.2 (.inr (List.mem_singleton_self _))
theorem valid_cases {r : Rsc} (h : validE r = 0) : (r.k = 0 ∧ r.acc.o ≠ []) ∨ (r.k = 1 ∧ r.f ≠ [] ∧ r.t ≠ []) ∨ (r.k = 2 ∧ r.f ≠ []) := by
  unfold validE at h
  split at h
  · rename_i h0
    split at h
    · rename_i h1; exact .inl ⟨h0, h1.1⟩
    · cases h
  · split at h
    · rename_i h0
      split at h
      · rename_i h1; exact .inr (.inl ⟨h0, h1.1, h1.2.1⟩)
      · cases h
    · split at h
      · rename_i h0
        split at h
        · rename_i h1; exact .inr (.inr ⟨h0, h1.1⟩)
        · cases h
      · cases h
theorem apR_k (r : Rsc) : (apR r).k = r.k := rfl
theorem rd_ap {i : Itm} {r : Rsc} (h : validE r = 0) : rdelta (apI i) (apR r) = rdelta i r := by
  unfold rdelta;rw [apR_k];rcases valid_cases h with ⟨h0, h1⟩ | ⟨h0, h1, h2⟩ | ⟨h0, h1⟩
  · rw [if_pos h0, if_pos h0];show ((i.po.map apP).map _).sum = _;rw [List.map_map];refine Zcv fun x _ => ?_;show pd (apR r) (apP x) = pd r x;unfold pd apR apP;rw [sfx_ne h1]
    have e : ((⟨x.acc.o ++ [126], x.acc.k, x.acc.a⟩ : Acc) = ⟨r.acc.o ++ [126], r.acc.k, r.acc.a⟩) ↔ x.acc = r.acc := by
      rw [Acc.eq_iff, Acc.eq_iff, app_inj]
    by_cases hc : x.acc = r.acc
    · rw [if_pos (e.2 hc), if_pos hc]
    · rw [if_neg (fun h => hc (e.1 h)), if_neg hc]
  · have hk : ¬ r.k = 0 := by omega
    rw [if_neg hk, if_neg hk];show ((i.pa.map apY).map _).sum = _;rw [List.map_map];refine Zcv fun x _ => ?_;show yd (apR r) (apY x) = yd r x;unfold yd yd1 yd2 apR apY;rw [sfx_ne h1, sfx_ne h2];simp only [app_inj]
  · have hk : ¬ r.k = 0 := by omega
    rw [if_neg hk, if_neg hk];show ((i.pa.map apY).map _).sum = _;rw [List.map_map];refine Zcv fun x _ => ?_;show yd (apR r) (apY x) = yd r x;unfold yd yd1 yd2 apR apY;rw [sfx_ne h1];simp only [app_inj, h0, true_or]
theorem sum_zero {α : Type} {f : α → Int} : ∀ {l : List α}, (∀ x ∈ l, f x = 0) → (l.map f).sum = 0
  | [], _ => rfl
  | a :: l, h => by rw [List.map_cons, List.sum_cons, h a List.mem_cons_self, sum_zero fun x hx => h x (List.mem_cons_of_mem _ hx)]; rfl
theorem rd_sep1 {i : Itm} {r : Rsc} (h : validE r = 0) (hp : ∀ y ∈ i.po, (126 : UInt8) ∉ y.acc.o) (hy : ∀ y ∈ i.pa, (126 : UInt8) ∉ y.f ∧ (126 : UInt8) ∉ y.t) : rdelta i (apR r) = 0 := by
  unfold rdelta;rw [apR_k]
  have key : r.f ≠ [] → (i.pa.map (yd (apR r))).sum = 0 := fun h1 => sum_zero fun x hx => by
    have hn := hy x hx;unfold yd yd1 yd2;rw [if_neg (fun hc => hn.1 (by rw [hc.1]; show _ ∈ sfx r.f; rw [sfx_ne h1]; exact mem_til _)), if_neg (fun hc => hn.2 (by rw [hc.1]; show _ ∈ sfx r.f; rw [sfx_ne h1]; exact mem_til _))]
    rfl
  rcases valid_cases h with ⟨h0, h1⟩ | ⟨h0, h1, h2⟩ | ⟨h0, h1⟩
  · rw [if_pos h0]
    exact sum_zero fun x hx => by
      unfold pd;rw [if_neg (fun hc => hp x hx (by rw [hc]; show _ ∈ sfx r.acc.o; rw [sfx_ne h1]; exact mem_til _))]
  · rw [if_neg (by omega)]; exact key h1
  · rw [if_neg (by omega)]; exact key h1
theorem rd_sep2 {i : Itm} {r : Rsc} (h1 : (126 : UInt8) ∉ r.acc.o) (h2 : (126 : UInt8) ∉ r.f) : rdelta (apI i) r = 0 := by
  unfold rdelta
  split
  · show ((i.po.map apP).map _).sum = 0;rw [List.map_map]
    exact sum_zero fun x _ => by
      show pd r (apP x) = 0;unfold pd;rw [if_neg (fun hc => h1 (by rw [← hc]; exact mem_til _))]
  · show ((i.pa.map apY).map _).sum = 0;rw [List.map_map]
    exact sum_zero fun x _ => by
      show yd r (apY x) = 0;unfold yd yd1 yd2;rw [if_neg (fun hc => h2 (by rw [← hc.1]; exact mem_til _)), if_neg (fun hc => h2 (by rw [← hc.1]; exact mem_til _))]
      rfl
theorem dlt_rd {i : Itm} {r : Rsc} (h1 : checkE i = 0) (h2 : validE r = 0) : dltE i r = rdelta i r := by
  unfold dltE;rw [if_pos ⟨h1, h2⟩, rdelta_eq h2]
theorem ordI_ap (x y : Itm) : ordI (apI x) (apI y) = ordI x y := by
  unfold ordI
  have e : cmpI (apI x).sq (apI y).sq = cmpI x.sq y.sq := by
    show cmpI (x.sq + 1000000) (y.sq + 1000000) = _;unfold cmpI
    split <;> split <;> first | rfl | omega | (split <;> split <;> first | rfl | omega) | (split <;> first | rfl | omega)
  rw [e]; rfl
theorem insO_ap : ∀ (l : List Itm) (x : Itm), insO (l.map apI) (apI x) = (insO l x).map apI
  | [], _ => rfl
  | a :: l, x => by
    have ih := insO_ap l x;show (if ∀ y ∈ apI a :: l.map apI, ordI (apI x) y < 0 then apI x :: apI a :: l.map apI else apI a :: insO (l.map apI) (apI x)) = (if ∀ y ∈ a :: l, ordI x y < 0 then x :: a :: l else a :: insO l x).map apI
    have e : (∀ y ∈ apI a :: l.map apI, ordI (apI x) y < 0) ↔ ∀ y ∈ a :: l, ordI x y < 0 := by
      rw [← List.map_cons]
      constructor
      · intro h y hy;have := h _ (List.mem_map.2 ⟨y, hy, rfl⟩)
        rwa [ordI_ap] at this
      · intro h y hy;obtain ⟨z, hz, rfl⟩ := List.mem_map.1 hy;rw [ordI_ap]; exact h z hz
    by_cases h : ∀ y ∈ a :: l, ordI x y < 0
    · rw [if_pos (e.2 h), if_pos h]; rfl
    · rw [if_neg (fun h2 => h (e.1 h2)), if_neg h, ih]; rfl
theorem sortO_ap (l : List Itm) : sortO (l.map apI) = (sortO l).map apI := by
  unfold sortO;rw [List.foldl_map]
  have key : ∀ (l acc : List Itm), l.foldl (fun b a => insO b (apI a)) (acc.map apI) = (l.foldl insO acc).map apI := by
    intro l
    induction l with
    | nil => intro acc; rfl
    | cons a l ih => intro acc; rw [List.foldl_cons, List.foldl_cons, insO_ap, ih]
  exact key l []
theorem bef_map {g : Int → Int} (hg : ∀ x y, g x = g y → x = y) (i : Int) (q : List Int) : befQ (g i) (q.map g) = (befQ i q).map g := by
  unfold befQ
  by_cases h : i ∈ q
  · rw [if_pos h, if_pos (List.mem_map.2 ⟨i, h, rfl⟩), List.takeWhile_map]
    congr 1
    refine congrArg (fun z => List.takeWhile z q) (funext fun a => decide_eq_decide.2 ?_);exact ⟨fun h1 h2 => h1 (by rw [h2]), fun h1 h2 => h1 (hg _ _ h2)⟩
  · rw [if_neg h, if_neg]
    · rfl
    · intro h2;obtain ⟨j, hj, e⟩ := List.mem_map.1 h2;exact h (hg _ _ e ▸ hj)
def plus (x : Int) : Int := x + 1000000
theorem plus_inj {x y : Int} (h : plus x = plus y) : x = y := by unfold plus at h; omega
theorem mem_plus {l : List Int} {x : Int} : plus x ∈ l.map plus ↔ x ∈ l := by
  rw [List.mem_map];exact ⟨fun ⟨y, hy, e⟩ => plus_inj e ▸ hy, fun h => ⟨x, h, rfl⟩⟩
theorem ids_ap (l : List Itm) : (l.map apI).map Itm.id = (l.map Itm.id).map plus := by
  rw [List.map_map, List.map_map]; rfl
theorem feas_ap {b : Prb} (hb : prbE b = 0) (hc : prbE (apB b) = 0) (S : List Int) (hS : ∀ y ∈ S, y ∈ b.it.map Itm.id) : feasR (apB b) (S.map plus) ↔ feasR b S := by
  have vb := rooms_valid (ZbC hb).1;have vc := rooms_valid (ZbC hc).1;have ib := Zcn (ZbC hb).2.1;have ic := Zcn (ZbC hc).2.1
  have hd : ∀ i ∈ b.it, ∀ x ∈ b.ro, dltE (apI i) (apR x.r) = dltE i x.r := fun i hi x hx => by
    have v2 : validE (apR x.r) = 0 := vc (apO x) (List.mem_map.2 ⟨x, hx, rfl⟩);rw [dlt_rd (ic _ (List.mem_map.2 ⟨i, hi, rfl⟩)) v2, dlt_rd (ib i hi) (vb x hx), rd_ap (vb x hx)]
  have hq : ∀ x ∈ b.ro, qIds (sortO (apB b).it) (apR x.r) = (qIds (sortO b.it) x.r).map plus := fun x hx => by
    show qIds (sortO (b.it.map apI)) _ = _;rw [sortO_ap];unfold qIds;rw [filter_map2, List.map_map, List.map_map];have e : (sortO b.it).filter (fun a => decide (dltE (apI a) (apR x.r) < 0)) = (sortO b.it).filter fun i => decide (dltE i x.r < 0) := List.filter_congr fun i hi => by rw [hd i ((Zbq b.it).mem_iff.1 hi) x hx]
    rw [e]; rfl
  have hi : ∀ id ∈ b.it.map Itm.id, itmOf (apB b) (plus id) = apI (itmOf b id) := fun id h => by
    obtain ⟨hk, _, e1, e2⟩ := itmOf_at h;have hm : itmOf b id ∈ b.it := by rw [e1]; exact List.getElem_mem hk
    have hm2 : apI (itmOf b id) ∈ (apB b).it := List.mem_map.2 ⟨_, hm, rfl⟩;have h3 : (apI (itmOf b id)).id = plus id := by show (itmOf b id).id + 1000000 = _; rw [e2]; rfl
    obtain ⟨hk2, _, e3, e4⟩ := itmOf_at (p := apB b) (id := plus id) (List.mem_map.2 ⟨_, hm2, h3⟩);exact ids_inj (items_ids (ZbC hc).2.1) (by rw [e3]; exact List.getElem_mem hk2) hm2 (by rw [e4, h3])
  have ho : ∀ x ∈ b.ro, overL (apB b).it (apO x) (S.map plus) = overL b.it x S := fun x hx => by
    unfold overL;show max x.n 0 + (((b.it.map apI).filter _).map _).sum = _
    congr 1
    rw [filter_map2, List.map_map];have e : b.it.filter (fun a => decide ((apI a).id ∈ S.map plus)) = b.it.filter fun i => decide (i.id ∈ S) := List.filter_congr fun i _ => decide_eq_decide.2 mem_plus;rw [e];exact Zcv fun i h => hd i (List.mem_filter.1 h).1 x hx
  rw [feas_iff, feas_iff]
  constructor
  · rintro ⟨h1, h2⟩;refine ⟨fun id hid => ?_, fun x hx => ?_⟩
    · have h3 := h1 (plus id) (mem_plus.2 hid);refine ⟨fun x hx a ha => ?_, fun a ha => ?_⟩
      · have h4 := h3.1 (apO x) (List.mem_map.2 ⟨x, hx, rfl⟩) (plus a) (by
          show plus a ∈ befQ (plus id) (qIds (sortO (apB b).it) (apR x.r))
          rw [hq x hx, bef_map fun x y => plus_inj]; exact mem_plus.2 ha)
        exact mem_plus.1 h4
      · have h4 := h3.2 (plus a) (by
          rw [hi id (hS id hid)]
          exact List.mem_map.2 ⟨a, ha, rfl⟩)
        exact mem_plus.1 h4
    · have h4 := h2 (apO x) (List.mem_map.2 ⟨x, hx, rfl⟩)
      rwa [ho x hx] at h4
  · rintro ⟨h1, h2⟩;refine ⟨fun id' hid' => ?_, fun x' hx' => ?_⟩
    · obtain ⟨id, hid, rfl⟩ := List.mem_map.1 hid';have h3 := h1 id hid;refine ⟨fun x' hx' a' ha' => ?_, fun a' ha' => ?_⟩
      · obtain ⟨x, hx, rfl⟩ := List.mem_map.1 hx'
        have ha2 : a' ∈ (befQ id (qIds (sortO b.it) x.r)).map plus := by
          rw [← bef_map fun x y => plus_inj, ← hq x hx]; exact ha'
        obtain ⟨a, ha, rfl⟩ := List.mem_map.1 ha2;exact mem_plus.2 (h3.1 x hx a ha)
      · rw [hi id (hS id hid)] at ha';obtain ⟨a, ha, rfl⟩ := List.mem_map.1 ha';exact mem_plus.2 (h3.2 a ha)
    · obtain ⟨x, hx, rfl⟩ := List.mem_map.1 hx';rw [ho x hx]; exact h2 x hx
theorem few_ap {b : Prb} (h : FewP b) : FewP (apB b) := ⟨by show (b.it.map apI).length ≤ 30; rw [List.length_map]; exact h.i, by show (b.ro.map apO).length ≤ 100; rw [List.length_map]; exact h.r, fun x hx => by
  obtain ⟨y, hy, rfl⟩ := List.mem_map.1 hx;have := h.x y hy;show (y.po.map apP).length ≤ 8 ∧ (y.pa.map apY).length ≤ 8 ∧ (y.af.map _).length ≤ 8
  rw [List.length_map, List.length_map, List.length_map]; exact this⟩
theorem large_ap {b : Prb} (hb : prbE b = 0) (hc : prbE (apB b) = 0) (hF : FewP b) : ∀ y, y ∈ largeS (apB b) ↔ y ∈ (largeS b).map plus := fun y => by
  constructor
  · intro hy
    have hL : (largeS (apB b)) = ((largeS (apB b)).map fun y => y - 1000000).map plus := by
      rw [List.map_map]
      conv => lhs; rw [← List.map_id (largeS (apB b))]
      refine List.map_congr_left fun z _ => ?_;show z = z - 1000000 + 1000000;omega
    have hin : ∀ z ∈ (largeS (apB b)).map (fun y => y - 1000000), z ∈ b.it.map Itm.id := fun z hz => by
      obtain ⟨w, hw, rfl⟩ := List.mem_map.1 hz;have := large_ids hc hw;rw [show (apB b).it = b.it.map apI from rfl, ids_ap] at this;obtain ⟨v, hv, e⟩ := List.mem_map.1 this;have : w - 1000000 = v := by unfold plus at e; omega
      rw [this]; exact hv
    have hf := large_feas hc (few_ap hF);rw [hL] at hf;have hm := large_max hb hF ((feas_ap hb hc _ hin).1 hf) hin;refine List.mem_map.2 ⟨y - 1000000, hm _ (List.mem_map.2 ⟨y, hy, rfl⟩), ?_⟩;unfold plus; omega
  · intro hy;have hf := (feas_ap hb hc (largeS b) fun y h => large_ids hb h).2 (large_feas hb hF);refine large_max hc (few_ap hF) hf (fun z hz => ?_) y hy;obtain ⟨w, hw, rfl⟩ := List.mem_map.1 hz;show plus w ∈ (b.it.map apI).map Itm.id;rw [ids_ap];exact mem_plus.2 (large_ids hb hw)
def bothP (a b : Prb) : Prb := ⟨a.ro ++ (apB b).ro, a.it ++ (apB b).it⟩
theorem comp_law {a b : Prb} (ha : prbE a = 0) (hb : prbE b = 0) (hu : Unm a) (hp : prbE (bothP a b) = 0) (hFa : FewP a) (hFb : FewP b) (hFp : FewP (bothP a b)) :
    (largeS (bothP a b)).length = (largeS a).length + (largeS b).length ∧ (∀ y ∈ largeS a, y ∈ largeS (bothP a b)) ∧ ∀ y ∈ largeS b, y + 1000000 ∈ largeS (bothP a b) := by
  obtain ⟨p1, p2, p3⟩ := ZbC hp
  have hc : prbE (apB b) = 0 := by
    have e1 : roomsE (apB b).ro = 0 := roomsE_ok (fun o ho => by
      have ho2 : o ∈ (bothP a b).ro := List.mem_append.2 (.inr ho);have := rooms_amt p1 o ho2;rw [mx_v]
      exact ⟨rooms_valid p1 o ho2, by omega, by omega⟩) (by
        have := rooms_nodup p1;rw [show (bothP a b).ro = a.ro ++ (apB b).ro from rfl, List.map_append, List.nodup_append] at this
        exact this.2.1)
    have e2 : itemsE (apB b).it = 0 := items_ok (fun i hi => Zcn p2 i (List.mem_append.2 (.inr hi))) (by
        have := items_ids p2;rw [show (bothP a b).it = a.it ++ (apB b).it from rfl, List.map_append, List.nodup_append] at this
        exact this.2.1) (by
        have := items_nodup p2;rw [show (bothP a b).it = a.it ++ (apB b).it from rfl, List.map_append, List.nodup_append] at this
        exact this.2.1)
    have e3 : afterE (apB b).it = 0 := after_ok fun i hi x hx => by
      obtain ⟨j, hj, rfl⟩ := List.mem_map.1 hi;obtain ⟨z, hz, rfl⟩ := List.mem_map.1 hx;show plus z ∈ (b.it.map apI).map Itm.id;rw [ids_ap];exact mem_plus.2 (after_in (ZbC hb).2.2 j hj z hz)
    have hl1 := (few_ap hFb).i;have hl2 := (few_ap hFb).r;unfold prbE;rw [if_neg (by omega), e1, e2, e3]; rfl
  have va := rooms_valid (ZbC ha).1;have vb := rooms_valid (ZbC hb).1;have vc := rooms_valid (ZbC hc).1;have ia := Zcn (ZbC ha).2.1;have ic := Zcn (ZbC hc).2.1
  have Pa : Part (bothP a b) a := ⟨hp, ha, fun x hx => List.mem_append.2 (.inl hx), fun i hi => List.mem_append.2 (.inl hi), fun i hi hn x hx => by
    rcases List.mem_append.1 hi with h | h
    · exact absurd h hn
    · obtain ⟨j, hj, rfl⟩ := List.mem_map.1 h;rw [dlt_rd (ic _ h) (va x hx)];have := hu.r x hx
      exact rd_sep2 this.1 this.2.1⟩
  have Pc : Part (bothP a b) (apB b) := ⟨hp, hc, fun x hx => List.mem_append.2 (.inr hx), fun i hi => List.mem_append.2 (.inr hi), fun i hi hn x hx => by
    rcases List.mem_append.1 hi with h | h
    · have h2 := vc x hx;obtain ⟨y, hy, rfl⟩ := List.mem_map.1 hx;rw [dlt_rd (ia i h) h2];have := hu.i i h;exact rd_sep1 (vb y hy) this.2.2.1 this.2.2.2
    · exact absurd h hn⟩
  have hd : ∀ y ∈ a.it.map Itm.id, y ∉ (apB b).it.map Itm.id := fun y hy hm => by
    obtain ⟨i, hi, rfl⟩ := List.mem_map.1 hy;obtain ⟨j, hj, e⟩ := List.mem_map.1 hm;obtain ⟨k, hk, rfl⟩ := List.mem_map.1 hj;have h1 := (hu.i i hi).1;have h2 := (check_ok (Zcn (ZbC hb).2.1 k hk)).2.1.1;have h3 : k.id + 1000000 = i.id := e;omega
  obtain ⟨h1, h2⟩ := part_large Pa Pc hFp hFa (few_ap hFb) (fun x hx => List.mem_append.1 hx) (fun i hi => List.mem_append.1 hi) hd;have h3 := large_ap hb hc hFb
  have h4 : (largeS (apB b)).length = (largeS b).length := by
    rw [len_same (large_nodup hc) ?_ h3, List.length_map];rw [List.Nodup, List.pairwise_map];exact List.Pairwise.imp (fun {x y} h e => h (plus_inj e)) (large_nodup hb)
  refine ⟨by rw [h2, h4], fun y hy => (h1 y).2 (.inl hy), fun y hy => (h1 _).2 (.inr ((h3 _).2 (mem_plus.2 hy)))⟩
end Go.Proofs.YtneihdahboilnaaGreat
/- Layer 28: how the laws' arguments are opened. -/
namespace Go.Proofs.YtneihdahboilnaaGreat
open Go.ChangeShapes Go.WideShapes Go.ChangeAt Go.RowKit
section
variable {H : Type} {enc : TypeId × Value → H} {w : World}
abbrev tt {α : Type} : α → Prop := fun _ => True
theorem oI : OpenT enc Tryz.prog w 3 1 intD tt := (openI64 Tryz.underlying3).asQ id (fun _ _ => rfl) (fun _ _ => trivial)
theorem oJ : OpenT enc Tryz.prog w 2 1 intD tt := (openI64 Tryz.underlying2).asQ id (fun _ _ => rfl) (fun _ _ => trivial)
theorem oS : OpenT enc Tryz.prog w 9 1 strD tt := (openStrL Tryz.underlying9).asQ id (fun _ _ => rfl) (fun _ _ => trivial)
theorem oIs : OpenT enc Tryz.prog w 28 1 (fun l : List Int => .sl none (l.map intD)) tt := (openSl Tryz.underlying28 (by kernel_rfl) (by omega) (b := 8) (by kernel_rfl) oI).asQ id (fun _ _ => rfl) (fun _ _ => trivial)
end
abbrev LB (l : List UInt8) : Prop := l.length ≤ 140737488351232
def AccL (a : Acc) : Prop := LB a.o
def RscL (r : Rsc) : Prop := LB r.acc.o ∧ LB r.f ∧ LB r.t
def ItmL (i : Itm) : Prop := (∀ x ∈ i.po, LB x.acc.o) ∧ ∀ y ∈ i.pa, LB y.f ∧ LB y.t
def PrbL (p : Prb) : Prop := (∀ x ∈ p.ro, RscL x.r) ∧ ∀ i ∈ p.it, ItmL i
section
variable {H : Type} {enc : TypeId × Value → H} {w : World}
theorem oSL : OpenT enc Tryz.prog w 9 1 strD LB := openStrL Tryz.underlying9
theorem oAccL : OpenT enc Tryz.prog w 54 3 accD AccL :=
  (openSt Tryz.underlying54 (by kernel_rfl) (openFc rfl (by kernel_rfl) oSL (openFc rfl (by kernel_rfl) oI (openFc rfl (by kernel_rfl) oS openF0)))).asQ (fun a => (⟨a.1, a.2.1, a.2.2.1⟩ : Acc)) (fun _ _ => rfl) (fun _ h => h.1)
theorem oPostL : OpenT enc Tryz.prog w 125 4 postD (fun x : Post => LB x.acc.o) :=
  (openSt Tryz.underlying125 (by kernel_rfl) (openFc rfl (by kernel_rfl) oAccL (openFc rfl (by kernel_rfl) oJ openF0))).asQ (fun a => (⟨a.1, a.2.1⟩ : Post)) (fun _ _ => rfl) (fun _ h => h.1)
theorem oPayL : OpenT enc Tryz.prog w 127 3 payD (fun y : Pay => LB y.f ∧ LB y.t) :=
  (openSt Tryz.underlying127 (by kernel_rfl) (openFc rfl (by kernel_rfl) oSL (openFc rfl (by kernel_rfl) oSL (openFc rfl (by kernel_rfl) oJ openF0)))).asQ (fun a => (⟨a.1, a.2.1, a.2.2.1⟩ : Pay)) (fun _ _ => rfl) (fun _ h => ⟨h.1, h.2.1⟩)
theorem oRscL : OpenT enc Tryz.prog w 56 6 rscD RscL :=
  (openSt Tryz.underlying56 (by kernel_rfl) (openFc rfl (by kernel_rfl) oI (openFc rfl (by kernel_rfl) oAccL (openFc rfl (by kernel_rfl) oSL (openFc rfl (by kernel_rfl) oSL openF0))))).asQ (fun a => (⟨a.1, a.2.1, a.2.2.1, a.2.2.2.1⟩ : Rsc)) (fun _ _ => rfl) (fun _ h => ⟨h.2.1, h.2.2.1, h.2.2.2.1⟩)
theorem oItmL : OpenT enc Tryz.prog w 64 6 itmD ItmL :=
  (openSt Tryz.underlying64 (by kernel_rfl) (openFc rfl (by kernel_rfl) oI (openFc rfl (by kernel_rfl) oI (openFc rfl (by kernel_rfl) oI
    (openFc rfl (by kernel_rfl) (openSl Tryz.underlying61 (by kernel_rfl) (by omega) (b := 48) (by kernel_rfl) oPostL)
    (openFc rfl (by kernel_rfl) (openSl Tryz.underlying62 (by kernel_rfl) (by omega) (b := 40) (by kernel_rfl) oPayL) (openFc rfl (by kernel_rfl) oIs openF0))))))).asQ
    (fun a => (⟨a.1, a.2.1, a.2.2.1, a.2.2.2.1, a.2.2.2.2.1, a.2.2.2.2.2.1⟩ : Itm)) (fun _ _ => rfl) (fun _ h => ⟨h.2.2.2.1.1, h.2.2.2.2.1.1⟩)
theorem oRooL : OpenT enc Tryz.prog w 67 7 rooD (fun x : Roo => RscL x.r) :=
  (openSt Tryz.underlying67 (by kernel_rfl) (openFc rfl (by kernel_rfl) oRscL (openFc rfl (by kernel_rfl) oJ openF0))).asQ (fun a => (⟨a.1, a.2.1⟩ : Roo)) (fun _ _ => rfl) (fun _ h => h.1)
theorem oPrbL : OpenT enc Tryz.prog w 25 2 prbD PrbL :=
  (openSt Tryz.underlying25 (by kernel_rfl) (openFc rfl (by kernel_rfl) (openSl Tryz.underlying22 (by kernel_rfl) (by omega) (b := 88) (by kernel_rfl) oRooL) (openFc rfl (by kernel_rfl) (openSl Tryz.underlying23 (by kernel_rfl) (by omega) (b := 96) (by kernel_rfl) oItmL) openF0))).asQ
    (fun a => (⟨a.1, a.2.1⟩ : Prb)) (fun _ _ => rfl) (fun _ h => ⟨h.1.1, h.2.1.1⟩)
end
end Go.Proofs.YtneihdahboilnaaGreat
