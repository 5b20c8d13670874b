/- The kit's contract of slices.SortFunc at a row of pointers in a region of many blocks; the comparison reads the blocks. No program in sight. -/
import Derived.Test.YtneihdahboilnaaGreatMg18
import Derived.Shelf.SlSortCmp.Whole1
namespace Go.Proofs.YtneihdahboilnaaGreat
open Go.RowKit Go.Shelf
open Go.Sort (putRow Holds PermIn SortedIn SWO mapBlock onCells putCells)
variable {P : Program}
section
variable {ρr : Ren} {τ : Type}

theorem heap_putRow_other {α : Type} [Inhabited α] {enc : α → Value} {w : World} {b off m : Nat} {dk : Array α} {os : Array Obj} {b' : Nat} (hne : b' ≠ b) (hlt : b' < w.heap.size) : (sortWorld enc w b off m dk os).heap[b']? = w.heap[b']? := by
  unfold sortWorld;rw [Go.Sort.heap_grow_old _ _ (by rw [Go.Sort.size_putRow]; exact hlt)];show (w.heap.modify b _)[b']? = _;rw [Array.getElem?_modify, if_neg (Ne.symm hne)]

theorem size_sortW {α : Type} [Inhabited α] {enc : α → Value} {w : World} {b off m : Nat} {dk : Array α} {os : Array Obj} : w.heap.size ≤ (sortWorld enc w b off m dk os).heap.size := by
  unfold sortWorld Go.Sort.grow;rw [Array.size_append, Go.Sort.size_putRow];exact Nat.le_add_right _ _

theorem st_sortN (L : SlLaysF.n6 P ρr) {E : TypeId} {g g6 : FuncId} {fn : Func} (hfn : P.funcs[g]? = some fn) (hnm : (fn.name == "runtime.NumGoroutine") = false) {c : Code} (hbody : fn.body = some c)
    {bl : τ → Nat} {px : τ → List D} {tx : τ → TypeId} (cf : τ → τ → Int) (hO : SWO (ltOf cf)) (xs ys0 : List τ) (hsz : xs.length < 4611686018427387904) (hc : ∀ x ∈ xs, ∀ y ∈ xs, PCalls P g [.d (.ptr (.agg (px x))), .d (.ptr (.agg (px y)))] (.raw (.int .i64 (cf x y))))
    (hu : ∀ ys : List τ, ys.Perm xs → ys.Pairwise (fun a b => ¬ cf b a < 0) → ys = ys0)
    {F : Fr} {s : AS} {d : Nat} {x y : Operand} {ty : TypeId} {pos : String} {aft : Array Edge} {gd : Option (Nat × Bool)} {at_ : Array TypeId} {f b cap n : Nat} {M : MF} {fa : AV} {row : List D} {hp' : Hp}
    (hg : ρr.f 6 = g6) (hM : hfam s.hp f = some [.multi M]) (hpx : ∀ x ∈ xs, M (bl x) = some (.cells (tx x) (px x))) (h1x : ∀ x ∈ xs, ∀ c ∈ px x, c.one = true) (hx : s.ev x = some (.d (.raw (sV b n cap)))) (hy : s.ev y = some fa) (hfa : ∀ w O ρ v, RepA w O ρ fa v → v = .func (.func g) #[] #[]) (hb : M b = some (.row E 1 cap row)) (hrow : row = xs.map fun x => pD (bl x) 0) (hn : n = xs.length) (hxs : xs ≠ []) (hh : hmul? s.hp f (Za4 M b (.row E 1 cap (ys0.map fun x => pD (bl x) 0))) = some hp') (hd : Nat.blt d s.n = true) :
    Zal P F ⟨some d, .call { callee := .value (.func g6), args := #[x, y], argTypes := at_ }, ty, pos, aft, gd⟩ s ⟨s.n, (d, .d (.tup [])) :: s.env, hp'⟩ (fun _ _ => true) := by
  subst hg hrow hn;intro ρ act w hs
  obtain ⟨fn6, hf1, hf2, hf3⟩ : ∃ fn, P.funcs[ρr.f 6]? = some fn ∧ (fn.name == "runtime.NumGoroutine") = false ∧ fn.body.isSome = true := by
    obtain ⟨nm, hn, hf⟩ := L.f6;exact ⟨_, hf, hn, rfl⟩
  unfold Oper.wp;rw [show (#[x, y] : Array Operand) = [x, y].toArray from rfl, run_call hf1 hf2 hf3, Oper.upon_enter]
  suffices key : Calls P (ρr.f 6) ([x, y].map act.eval).toArray w fun e w' => e = .returned (.tuple #[]) ∧ SR F ⟨s.n, s.env, hp'⟩ ρ act w' by
    refine key.mono fun e w' ⟨e1, hsr⟩ => ?_;subst e1;exact ⟨ρ, hsr.put (Zbc hd) (.d (.tup rfl fun i c v hc => by cases hc)), fun _ _ _ => rfl⟩
  have r0 := hs.raw hx;have r1 := hfa _ _ _ _ (hs.ev hy);have h3 := hs.heap
  have hO0 : OwnB ρ s.hp b := ⟨f, b, _, by rw [Za5 hM, hb]; rfl, by rw [(hs.rowN hM hb).1]; rfl⟩
  obtain ⟨hρ, us, q1, q2, q3⟩ := hs.rowN hM hb;show Calls P (ρr.f 6) #[act.eval x, act.eval y] w _;rw [r1, r0];have hn : 0 < xs.length := List.length_pos_iff.2 hxs
  have hus : us = xs.map fun x => pV (bl x) 0 := by
    apply List.ext_getElem?
    intro i;rw [List.getElem?_map]
    by_cases hi : i < xs.length
    · rw [List.getElem?_eq_getElem hi];obtain ⟨u, h1, h2, h4⟩ := q2.2.2 i (pD (bl xs[i]) 0) (by rw [List.getElem?_map, List.getElem?_eq_getElem hi]; rfl) 0 (pD (bl xs[i]) 0) rfl;rw [Nat.mul_one, Nat.add_zero] at h1;rw [h1]
      cases h4 with
      | raw _ => rfl
    · have : us.length = xs.length := by have := q2.1; rwa [List.length_map, Nat.mul_one] at this
      rw [List.getElem?_eq_none (by omega), List.getElem?_eq_none (by omega)]; rfl
  obtain ⟨cur, p1, p2, p3, p3', p4⟩ : ∃ cur, w.heap[b]? = some (.cells cur E (0, 0)) ∧ cur.size = cap ∧ xs.length ≤ cap ∧ cap ≤ maxLen ∧ cur.toList.take xs.length = us := by
    rcases q1.2 with ⟨_, h⟩ | ⟨b', cap', cur, e1, _, e2, e3, e4, e5, e6⟩
    · rw [List.length_map] at h; omega
    · rw [List.length_map] at e1;injection e1 with e1 e7 e8
      injection e1 with e1
      injection e1 with e1
      subst e1 e8;rw [List.length_map] at e3 e6;exact ⟨cur, e2, by omega, e3, e4, by rwa [Nat.mul_one] at e6⟩
  rw [List.length_map] at *;have hlt : b < w.heap.size := (Array.getElem?_eq_some_iff.1 p1).1;have hOb : F.O ρ s.hp b := .inr hO0;have hOl : ∀ b', F.O ρ s.hp b' → b' < w.heap.size := fun b' h => h3.ltO h
  let x0 : τ := xs[0]
  let ix : Nat → Nat := fun i => if i < xs.length then i else 0
  let el : Nat → τ := fun i => (xs[ix i]?).getD x0
  have hel : ∀ i, el i ∈ xs := fun i => by
    have hix : ix i < xs.length := by show (if _ then _ else _) < _; split <;> omega
    show (xs[ix i]?).getD x0 ∈ xs;rw [List.getElem?_eq_getElem hix]; exact List.getElem_mem hix
  have heli : ∀ i (hi : i < xs.length), el i = xs[i] := fun i hi => by
    show (xs[ix i]?).getD x0 = _;rw [show ix i = i from if_pos hi, List.getElem?_eq_getElem hi]; rfl
  let enc : Nat → Value := fun i => pV (bl (el i)) 0
  let cf' : Nat → Nat → Int := fun i j => cf (el i) (el j)
  have hO' : SWO (ltOf cf') := ⟨fun x => hO.irrefl (el x), fun x y z => hO.trans (el x) (el y) (el z), fun x y z => hO.ntrans (el x) (el y) (el z)⟩
  have henc1 : OneCell enc := fun _ => rfl;have hd0 : ∀ i, i < xs.length → (Array.range xs.length)[i]! = i := fun i hi => by rw [getElem!_pos _ i (by simpa using hi)]; simp
  have hcu : ∀ i (hi : i < xs.length), cur[i]? = some (pV (bl xs[i]) 0) := fun i hi => by
    have : us[i]? = cur.toList[i]? := by rw [← p4, List.getElem?_take_of_lt hi]
    rw [hus, List.getElem?_map, List.getElem?_eq_getElem hi] at this;rw [← Array.getElem?_toList]; exact this.symm
  have hH : Holds enc w b 0 (Array.range xs.length) := by
    intro j hj;simp only [Array.size_range] at hj;rw [hd0 _ hj];refine ⟨?_, ?_⟩
    · simp only [World.cell?, p1, Nat.zero_add];rw [hcu j hj];show _ = some (pV (bl (el j)) 0);rw [heli j hj]; rfl
    · simp only [World.frozen?, p1]
      simp
  have hcmp : CmpLays1 P g #[] enc cf' b 0 (Array.range xs.length).size w := by
    intro m os dk _ x y;have hWs : w.heap.size ≤ (sortWorld enc w b 0 m dk os).heap.size := size_sortW
    let O' : Nat → Prop := fun b' => F.O ρ s.hp b' ∧ b' ≠ bl (el x) ∧ b' ≠ bl (el y)
    have hne : ∀ i, bl (el i) ≠ b := fun i e => by
      have := hpx _ (hel i);rw [e, hb] at this; cases this
    have hptr : ∀ i, i = x ∨ i = y → RepD (sortWorld enc w b 0 m dk os) O' (.ptr (.agg (px (el i)))) (pV (bl (el i)) 0) := fun i hi => by
      obtain ⟨_, vs, c1, c2, c3, c4⟩ := hs.cellsN hM (hpx _ (hel i));have hl : bl (el i) < w.heap.size := (Array.getElem?_eq_some_iff.1 c1).1
      have hOn : ¬ O' (bl (el i)) := fun h => by
        rcases hi with e | e
        · exact h.2.1 (by rw [e])
        · exact h.2.2 (by rw [e])
      show RepD _ _ (.ptr (.agg (px (el i)))) (.pointer (some ⟨bl (el i), 0, none⟩));refine RepD.ptr (x := .agg (px (el i))) (fun j => vs.getD j undef) (Nat.lt_of_lt_of_le hl hWs) hOn (h1x _ (hel i)) (fun j c hj => ?_) fun j c hj => ?_
      · have hj' : j < vs.length := by rw [c2]; exact (List.getElem?_eq_some_iff.1 hj).1
        simp only [World.cell?, heap_putRow_other (hne i) hl, c1, Nat.zero_add]
        simp [hj']
      · have hj' : j < vs.length := by rw [c2]; exact (List.getElem?_eq_some_iff.1 hj).1
        have hv : vs[j]? = some vs[j] := List.getElem?_eq_getElem hj';have : vs.getD j undef = vs[j] := by rw [List.getD_eq_getElem?_getD, hv]; rfl
        rw [this];exact (c3 j c _ hj hv).mono hWs (fun b' hl hno => heap_putRow_other (fun e => hno (e ▸ hOb)) hl) (fun _ _ h => h.1)
    refine (pure_at (hc (el x) (hel x) (el y) (hel y)) (w := sortWorld enc w b 0 m dk os) (O := O') (fun b' h => Nat.lt_of_lt_of_le (hOl b' h.1) hWs) (vs := [pV (bl (el x)) 0, pV (bl (el y)) 0]) rfl (fun i a v ha hv => ?_)).mono fun e w' ⟨v, e1, e2, e3, e4, e5⟩ => ⟨?_, grown_of e3 e4 e5⟩
    · match i, ha, hv with
      | 0, ha, hv => injection ha with ha; injection hv with hv; subst ha hv; exact .d (hptr x (.inl rfl))
      | 1, ha, hv => injection ha with ha; injection hv with hv; subst ha hv; exact .d (hptr y (.inr rfl))
    · cases e2 with
      | raw _ => exact e1
  have eg : ∀ args w, (callFunc g args).run P w = .ok (.enter g args) w := enters_of hfn hnm hbody;have key := Any.slices_SortFunc L enc henc1 cf' hO' g #[] b 0 cap (Array.range xs.length) w eg hcmp hH hlt (by simpa using hsz);rw [Array.size_range] at key;refine key.mono fun e w' ⟨e1, d', n, os, hp, hsort, hw⟩ => ?_;subst e1 hw;obtain ⟨s1, _, s3⟩ := hp;rw [Array.size_range] at s1
  have hperm : d'.toList.Perm (List.range xs.length) := by
    have e1 : d'.extract 0 xs.length = d' := by rw [← s1]; exact Array.extract_size
    have e2 : (Array.range xs.length).extract 0 xs.length = Array.range xs.length := by
      conv => lhs; arg 3; rw [← Array.size_range (n := xs.length)]
      exact Array.extract_size
    rw [e1, e2] at s3
    simpa using s3
  refine ⟨rfl, ?_⟩
  have hys : d'.toList.map el = ys0 := by
    apply hu
    · refine (hperm.map el).trans (List.Perm.of_eq ?_)
      apply List.ext_getElem (by simp)
      intro i h5 h6;simp only [List.getElem_map, List.getElem_range];exact heli i h6
    · rw [List.pairwise_iff_getElem];intro i j hi hj hij;simp only [List.length_map, Array.length_toList] at hi hj;have := hsort i j (Nat.zero_le _) hij (by omega);rw [getElem!_pos _ j hj, getElem!_pos _ i hi] at this;simp only [ltOf, decide_eq_false_iff_not] at this
      simpa using this
  have hlen' : ys0.length = xs.length := by rw [← hys]; simp [s1]
  -- the world: first what lies in the row, then the new blocks
  have hheap : (sortWorld enc w b 0 n d' os).heap[b]? = some (.cells (putCells enc 0 d' cur) E (0, 0)) := by
    unfold sortWorld;rw [Go.Sort.heap_grow_old _ _ (by rw [Go.Sort.size_putRow]; exact hlt)];show (w.heap.modify b _)[b]? = _;rw [Array.getElem?_modify, if_pos rfl, p1]; rfl
  refine hs.writeG f b (.nr b E 1 cap (xs.map fun x => pD (bl x) 0)) (.nr b E 1 cap (ys0.map fun x => pD (bl x) 0)) (by rw [Za5 hM, hb]; rfl) (fun g i => ?_) rfl rfl rfl size_sortW (Nat.le_add_right _ _) (fun b' hl hno => heap_putRow_other (fun e => hno (by rw [e, hρ]; rfl)) hl) (fun _ _ e => by cases e) fun hrep => ?_
  · rw [hmul?_spec hh]
    by_cases e : g = f
    · subst e;rw [if_pos rfl, Za5 hM]
      by_cases e2 : i = b
      · subst e2; rw [if_pos ⟨rfl, rfl⟩, Zbx]; rfl
      · rw [if_neg (fun h => e2 h.2), ZbG e2]
    · rw [if_neg e, if_neg (fun h => e h.1)]
  have hcs : (putCells enc 0 d' cur).size = cap := by simp only [putCells, Array.size_mapIdx]; omega
  have hrow : (putCells enc 0 d' cur).toList.take ys0.length = ys0.map fun x => pV (bl x) 0 := by
    apply List.ext_getElem?
    intro i
    by_cases hi : i < xs.length
    · rw [List.getElem?_take_of_lt (by omega), List.getElem?_map, ← hys, List.getElem?_map, Array.getElem?_toList, Array.getElem?_toList, Array.getElem?_eq_getElem (by omega), Array.getElem?_eq_getElem (by omega)];simp only [putCells, Array.getElem_mapIdx, Option.map_some];rw [if_pos ⟨Nat.zero_le _, by omega⟩];simp only [Nat.sub_zero];rw [getElem!_pos _ i (by omega)]
    · rw [List.getElem?_eq_none (by rw [List.length_take]; omega), List.getElem?_eq_none (by rw [List.length_map]; omega)]
  refine ⟨hρ, ys0.map fun x => pV (bl x) 0, ⟨by simp, .inr ⟨b, cap, _, by simp only [List.length_map], Nat.zero_le _, hheap, by rw [List.length_map, hlen']; exact p3, p3', by rw [hcs]; omega, by rw [List.length_map, Nat.mul_one, hrow]⟩⟩, ⟨by simp, fun x hx2 => ?_, fun i x hx2 j c hc2 => ?_⟩, fun x hx2 c hc2 => ?_⟩
  · obtain ⟨y, _, rfl⟩ := List.mem_map.1 hx2; rfl
  · rw [List.getElem?_map] at hx2
    cases hdi : ys0[i]? with
    | none => rw [hdi] at hx2; cases hx2
    | some q =>
      rw [hdi] at hx2;injection hx2 with hx2; subst hx2
      match j, hc2 with
      | 0, hc2 =>
        injection hc2 with hc2; subst hc2
        exact ⟨pV (bl q) 0, by rw [Nat.mul_one, Nat.add_zero, List.getElem?_map, hdi]; rfl, rfl, .raw rfl⟩
  · obtain ⟨y, _, rfl⟩ := List.mem_map.1 hx2
    cases hc2 with
    | head => rfl
    | tail _ h => cases h

theorem st_sortN0 (L : SlLaysF.n6 P ρr) {g6 : FuncId} {F : Fr} {s : AS} {d : Nat} {x y : Operand} {ty : TypeId} {pos : String} {aft : Array Edge} {gd : Option (Nat × Bool)} {at_ : Array TypeId} {fa : AV} 
    (hg : ρr.f 6 = g6) (hx : s.ev x = some (.d (.raw (.slice none 0 0)))) (_hy : s.ev y = some fa) (hd : Nat.blt d s.n = true) :
    Zal P F ⟨some d, .call { callee := .value (.func g6), args := #[x, y], argTypes := at_ }, ty, pos, aft, gd⟩ s ⟨s.n, (d, .d (.tup [])) :: s.env, s.hp⟩ (fun _ _ => true) := by
  subst hg;intro ρ act w hs
  obtain ⟨fn6, hf1, hf2, hf3⟩ : ∃ fn, P.funcs[ρr.f 6]? = some fn ∧ (fn.name == "runtime.NumGoroutine") = false ∧ fn.body.isSome = true := by
    obtain ⟨nm, hn, hf⟩ := L.f6;exact ⟨_, hf, hn, rfl⟩
  unfold Oper.wp;rw [show (#[x, y] : Array Operand) = [x, y].toArray from rfl, run_call hf1 hf2 hf3, Oper.upon_enter];have r0 := hs.raw hx;show Calls P (ρr.f 6) #[act.eval x, act.eval y] w _;rw [r0];refine (AnyF.slices_SortFunc_none { L with } none 0 _ w).mono fun e w' ⟨e1, e2⟩ => ?_;subst e1 e2;exact ⟨ρ, hs.put (Zbc hd) (.d (.tup rfl fun i c v hc => by cases hc)), fun _ _ _ => rfl⟩
end
end Go.Proofs.YtneihdahboilnaaGreat
/- The data of layer 28, and how they lie in memory. -/
namespace Go.Proofs.YtneihdahboilnaaGreat
open Go.RowKit

abbrev intD (z : Int) : D := .raw (.int .i64 z)
structure Acc where
  o : List UInt8
  k : Int
  a : List UInt8
structure Rsc where
  k : Int
  acc : Acc
  f : List UInt8
  t : List UInt8
structure Post where
  acc : Acc
  d : Int
structure Pay where
  f : List UInt8
  t : List UInt8
  n : Int
structure Itm where
  id : Int
  pr : Int
  sq : Int
  po : List Post
  pa : List Pay
  af : List Int
structure Roo where
  r : Rsc
  n : Int
structure Prb where
  ro : List Roo
  it : List Itm
theorem Acc.eq_iff {x y : Acc} : x = y ↔ x.o = y.o ∧ x.k = y.k ∧ x.a = y.a := by cases x; cases y; simp
instance : DecidableEq Acc := fun _ _ => decidable_of_iff _ Acc.eq_iff.symm
theorem Rsc.eq_iff {x y : Rsc} : x = y ↔ x.k = y.k ∧ x.acc = y.acc ∧ x.f = y.f ∧ x.t = y.t := by cases x; cases y; simp
instance : DecidableEq Rsc := fun _ _ => decidable_of_iff _ Rsc.eq_iff.symm
abbrev accD (x : Acc) : D := .agg [strD x.o, intD x.k, strD x.a]
abbrev rscD (x : Rsc) : D := .agg [intD x.k, strD x.acc.o, intD x.acc.k, strD x.acc.a, strD x.f, strD x.t]
abbrev postD (x : Post) : D := .agg [strD x.acc.o, intD x.acc.k, strD x.acc.a, intD x.d]
abbrev payD (x : Pay) : D := .agg [strD x.f, strD x.t, intD x.n]
abbrev itmD (x : Itm) : D := .agg [intD x.id, intD x.pr, intD x.sq, .sl none (x.po.map postD), .sl none (x.pa.map payD), .sl none (x.af.map intD)]
abbrev rooD (x : Roo) : D := .agg [intD x.r.k, strD x.r.acc.o, intD x.r.acc.k, strD x.r.acc.a, strD x.r.f, strD x.r.t, intD x.n]
abbrev prbD (x : Prb) : D := .agg [.sl none (x.ro.map rooD), .sl none (x.it.map itmD)]

def rscC (x : Rsc) : List Value := [.int .i64 x.k, strV x.acc.o, .int .i64 x.acc.k, strV x.acc.a, strV x.f, strV x.t]
def accC (x : Acc) : List Value := [strV x.o, .int .i64 x.k, strV x.a]
abbrev rscT : List TypeDesc := [.int .i64, .string, .int .i64, .string, .string, .string]
abbrev accT : List TypeDesc := [.string, .int .i64, .string]
theorem eqCell_int (a b : Int) : eqCell (.int .i64 a) (.int .i64 b) = decide (a = b) := by
  simp only [eqCell]; exact Bool.beq_eq_decide_eq a b
theorem eqCell_str (a b : List UInt8) : eqCell (strV a) (strV b) = decide (a = b) := by
  simp only [eqCell, strV, ← beq_toListBytes, beq_bytes]
theorem rsc_eqC (a b : Rsc) : eqCells (rscC a) (rscC b) = decide (a = b) := by
  simp only [rscC, eqCells, eqCell_int, eqCell_str, Rsc.eq_iff, Acc.eq_iff, Bool.and_true, Bool.decide_and, Bool.and_assoc]
theorem acc_eqC (a b : Acc) : eqCells (accC a) (accC b) = decide (a = b) := by
  simp only [accC, eqCells, eqCell_int, eqCell_str, Acc.eq_iff, Bool.and_true, Bool.decide_and]
theorem Zbt {d : TypeDesc} {ds : List TypeDesc} {u : Value} {us : List Value} (h : MapKept.IsKey d u) (hr : PlainAre ds us) : PlainAre (d :: ds) (u :: us) :=
  ⟨by simp [hr.1], fun i d' u' hd hu => by
    cases i with
    | zero => simp at hd hu; subst hd hu; exact h
    | succ i => exact hr.2 i d' u' (by simpa using hd) (by simpa using hu)⟩
theorem plain_nil : PlainAre [] [] := ⟨rfl, by simp⟩
theorem Zcb (a : Rsc) : PlainAre rscT (rscC a) := Zbt rfl (Zbt trivial (Zbt rfl (Zbt trivial (Zbt trivial (Zbt trivial plain_nil)))))
theorem acc_plain (a : Acc) : PlainAre accT (accC a) := Zbt trivial (Zbt rfl (Zbt trivial plain_nil))
theorem rsc_val (a : Rsc) : (rscD a).val? = some (.agg (rscC a).toArray) := rfl
theorem kt51 : KeyTy Tryz.prog 51 rscD (fun a => .agg (rscC a).toArray) := KeyTy.flat (ds := rscT) (by kernel_rfl) (by kernel_rfl) rsc_val Zcb rsc_eqC
theorem c2_wr {fs : List (Nat × Option (List AObj))} {f : Nat} {c1 c2 : List AObj} (h : look fs f = some (some c2)) : ∀ g c, look fs g = some c → C2 f c1 c2 g c := fun g c hg e => by
  subst e; rw [h] at hg; injection hg with hg; exact .inr hg.symm
theorem retB {p q : Prop} [Decidable p] [Decidable q] (h : p ↔ q) : AV.d (.raw (.bool (decide p))) = .d (.raw (.bool (decide q))) := by rw [decide_eq_decide.2 h]
theorem retT {q : Prop} [Decidable q] (h : q) : AV.d (.raw (.bool true)) = .d (.raw (.bool (decide q))) := by rw [decide_eq_true h]
theorem retF {q : Prop} [Decidable q] (h : ¬ q) : AV.d (.raw (.bool false)) = .d (.raw (.bool (decide q))) := by rw [decide_eq_false h]
theorem retI {a b : Int} (h : a = b) : AV.d (.raw (.int .i64 a)) = .d (.raw (.int .i64 b)) := by rw [h]
theorem wrapS (n : Nat) (h : n ≤ 9223372036854775807) : IntKind.i64.wrap (n : Int) = (n : Int) := IntWalk.i64_in _ (by omega)
end Go.Proofs.YtneihdahboilnaaGreat

/- Layer 28: the leaves. -/
namespace Go.Proofs.YtneihdahboilnaaGreat
open Go.RowKit

theorem within_p (n lo hi : Int) : PCalls Tryz.prog 113 [.d (intD n), .d (intD lo), .d (intD hi)] (.raw (.bool (decide (lo ≤ n ∧ n ≤ hi)))) := by
  refine Zaz Tryz.func113 rfl rfl Tryz.ntmps113 rfl rfl rfl fun F hF => (Zaf (Zab ?_));refine Zaa.go (Zad rfl rfl) (Zae (Zaf (Zab (Zaa.go (Zac rfl rfl) (Zaa.go (Zac rfl rfl) (Zaa.go (st_geq rfl rfl rfl) (Zaa.go (Zac rfl rfl) (ZaT 10 rfl (fun h10 => ?_) (fun h10 => ?_)))))))))
  · refine Zam rfl rfl rfl ?_;refine Zaa.go (Zac rfl rfl) (Zam rfl rfl rfl (Zaa.go (Zac rfl rfl) (Zam rfl rfl rfl (Zaa.go (st_leq rfl rfl rfl) (Zaa.go (Zaw rfl rfl rfl rfl) (Zaa.go (Zad rfl rfl) (Zae (Zas ?_))))))));exact ⟨_, [], [], Zao rfl, rfl, rfl, by first | exact retB (by omega) | exact retF (by omega), rfl⟩
  · refine Zak rfl rfl rfl rfl (Zak rfl rfl rfl rfl (Zak rfl rfl rfl rfl (Zaa.go (ZaB rfl rfl rfl rfl) (Zaa.go (Zad rfl rfl) (Zae (Zas ?_))))));exact ⟨_, [], [], Zao rfl, rfl, rfl, by first | exact retB (by omega) | exact retF (by omega), rfl⟩
theorem within64_p (n lo hi : Int) : PCalls Tryz.prog 112 [.d (intD n), .d (intD lo), .d (intD hi)] (.raw (.bool (decide (lo ≤ n ∧ n ≤ hi)))) := by
  refine Zaz Tryz.func112 rfl rfl Tryz.ntmps112 rfl rfl rfl fun F hF => (Zaf (Zab ?_));refine Zaa.go (Zad rfl rfl) (Zae (Zaf (Zab (Zaa.go (Zac rfl rfl) (Zaa.go (Zac rfl rfl) (Zaa.go (st_geq rfl rfl rfl) (Zaa.go (Zac rfl rfl) (ZaT 10 rfl (fun h10 => ?_) (fun h10 => ?_)))))))))
  · refine Zam rfl rfl rfl ?_;refine Zaa.go (Zac rfl rfl) (Zam rfl rfl rfl (Zaa.go (Zac rfl rfl) (Zam rfl rfl rfl (Zaa.go (st_leq rfl rfl rfl) (Zaa.go (Zaw rfl rfl rfl rfl) (Zaa.go (Zad rfl rfl) (Zae (Zas ?_))))))));exact ⟨_, [], [], Zao rfl, rfl, rfl, by first | exact retB (by omega) | exact retF (by omega), rfl⟩
  · refine Zak rfl rfl rfl rfl (Zak rfl rfl rfl rfl (Zak rfl rfl rfl rfl (Zaa.go (ZaB rfl rfl rfl rfl) (Zaa.go (Zad rfl rfl) (Zae (Zas ?_))))));exact ⟨_, [], [], Zao rfl, rfl, rfl, by first | exact retB (by omega) | exact retF (by omega), rfl⟩
theorem refwithin_p (n : Int) : PCalls Tryz.prog 66 [.d (intD n)] (.raw (.bool (decide (0 ≤ n ∧ n ≤ 1000000000)))) := by
  refine Zaz Tryz.func66 rfl rfl Tryz.ntmps66 rfl rfl rfl fun F hF => (Zaf ?_);refine Zab (Zaa.go (Zad rfl rfl) (Zae (Zaf (Zab (Zaa.go (Zac rfl rfl) (Zaa.go (st_geq rfl rfl rfl) (Zaa.go (Zac rfl rfl) (ZaT 5 rfl (fun h5 => ?_) (fun h5 => ?_)))))))))
  · refine Zam rfl rfl rfl (Zaa.go (Zac rfl rfl) (Zam rfl rfl rfl (Zaa.go (st_leq rfl rfl rfl) (Zaa.go (Zaw rfl rfl rfl rfl) (Zaa.go (Zad rfl rfl) (Zae (Zas ?_)))))));exact ⟨_, [], [], Zao rfl, rfl, rfl, by first | exact retB (by omega) | exact retF (by omega), rfl⟩
  · refine Zak rfl rfl rfl rfl (Zak rfl rfl rfl rfl (Zaa.go (ZaB rfl rfl rfl rfl) (Zaa.go (Zad rfl rfl) (Zae (Zas ?_)))));exact ⟨_, [], [], Zao rfl, rfl, rfl, by first | exact retB (by omega) | exact retF (by omega), rfl⟩
theorem nan_p (n : Int) : PCalls Tryz.prog 86 [.d (intD n)] (.raw (.bool false)) := by
  refine Zaz Tryz.func86 rfl rfl Tryz.ntmps86 rfl rfl rfl fun F hF => (Zaf (Zab (Zaa.go (Zad rfl rfl) ?_)));refine Zae (Zaf (Zab (Zaa.go (Zac rfl rfl) (Zaa.go (Zac rfl rfl) (Zaa.go (ZaX rfl rfl rfl) (Zaa.go (Zad rfl rfl) (Zae (Zas ?_))))))));exact ⟨_, [], [], Zao rfl, rfl, rfl, by simp, rfl⟩
theorem nanS_p (l : List UInt8) : PCalls Tryz.prog 87 [.d (strD l)] (.raw (.bool false)) := by
  refine Zaz Tryz.func87 rfl rfl Tryz.ntmps87 rfl rfl rfl fun F hF => (Zaf (Zab (Zaa.go (Zad rfl rfl) ?_)));refine Zae (Zaf (Zab (Zaa.go (Zac rfl rfl) (Zaa.go (Zac rfl rfl) (Zaa.go (st_neqSL rfl rfl rfl) (Zaa.go (Zad rfl rfl) (Zae (Zas ?_))))))));exact ⟨_, [], [], Zao rfl, rfl, rfl, by simp, rfl⟩
def cmpI (a b : Int) : Int := if a < b then -1 else if b < a then 1 else 0
def ltS (a b : List UInt8) : Bool := Op.bytesLess a b
def cmpS (a b : List UInt8) : Int := if ltS a b = true then -1 else if ltS b a = true then 1 else 0
theorem Zcl (a b : List UInt8) : Op.bytesLess (⟨a.toArray⟩ : ByteArray).toList (⟨b.toArray⟩ : ByteArray).toList = ltS a b := by rw [Lib.toList_data, Lib.toList_data]; rfl
theorem cmpI_p (a b : Int) : PCalls Tryz.prog 61 [.d (intD a), .d (intD b)] (intD (cmpI a b)) := by
  refine Zaz Tryz.func61 rfl rfl Tryz.ntmps61 rfl rfl rfl fun F hF => (Zaf (Zab ?_));refine Zaa.go (Zad rfl rfl) (Zae (Zaf (Zab (Zaa.go (Zac rfl rfl) (Zaa.go (Zan (nan_p a) rfl rfl) (Zaa.go (Zad rfl rfl) (Zae (Zaf ?_))))))));refine Zab (Zaa.go (Zac rfl rfl) (Zaa.go (Zan (nan_p b) rfl rfl) (Zaa.go (Zad rfl rfl) (Zae (Zaf (Zaf (Zab (Zaa.go (Zac rfl rfl) ?_))))))));refine Zae (ZaU rfl (rfl) (Zaq (Zaf (Zaf (Zab (Zaa.go (Zac rfl rfl) (Zae (ZaU rfl (rfl) ?_))))))));refine Zaq (Zaf (Zaf (Zab (Zaa.go (Zac rfl rfl) (Zaa.go (Zac rfl rfl) (Zaa.go (ZaG rfl rfl rfl) (Zae (ZaE rfl (fun h16 => ?_) (fun h16 => ?_)))))))))
  · refine Zaf (Zab (Zaa.go (Zad rfl rfl) (Zae (Zas ?_))));exact ⟨_, [], [], Zao rfl, rfl, rfl, by first | exact retI (by unfold cmpI; rw [if_pos (by assumption)]) | exact retI (by unfold cmpI; rw [if_neg (by assumption), if_pos (by omega)]) | exact retI (by unfold cmpI; rw [if_neg (by assumption), if_neg (by omega)]), rfl⟩
  · refine Zaq (Zaf (Zaf (Zab (Zaa.go (Zac rfl rfl) (Zaa.go (Zac rfl rfl) (Zaa.go (Zbq rfl rfl rfl) (Zae (ZaE rfl (fun h19 => ?_) (fun h19 => ?_)))))))))
    · refine Zaf (Zab (Zaa.go (Zad rfl rfl) (Zae (Zas ?_))));exact ⟨_, [], [], Zao rfl, rfl, rfl, by first | exact retI (by unfold cmpI; rw [if_pos (by assumption)]) | exact retI (by unfold cmpI; rw [if_neg (by assumption), if_pos (by omega)]) | exact retI (by unfold cmpI; rw [if_neg (by assumption), if_neg (by omega)]), rfl⟩
    · refine Zaq (Zaf (Zab (Zaa.go (Zad rfl rfl) (Zae (Zas ?_)))));exact ⟨_, [], [], Zao rfl, rfl, rfl, by first | exact retI (by unfold cmpI; rw [if_pos (by assumption)]) | exact retI (by unfold cmpI; rw [if_neg (by assumption), if_pos (by omega)]) | exact retI (by unfold cmpI; rw [if_neg (by assumption), if_neg (by omega)]), rfl⟩
theorem cmpS_p (a b : List UInt8) : PCalls Tryz.prog 62 [.d (strD a), .d (strD b)] (intD (cmpS a b)) := by
  refine Zaz Tryz.func62 rfl rfl Tryz.ntmps62 rfl rfl rfl fun F hF => (Zaf (Zab ?_));refine Zaa.go (Zad rfl rfl) (Zae (Zaf (Zab (Zaa.go (Zac rfl rfl) (Zaa.go (Zan (nanS_p a) rfl rfl) (Zaa.go (Zad rfl rfl) (Zae (Zaf ?_))))))));refine Zab (Zaa.go (Zac rfl rfl) (Zaa.go (Zan (nanS_p b) rfl rfl) (Zaa.go (Zad rfl rfl) (Zae (Zaf (Zaf (Zab (Zaa.go (Zac rfl rfl) ?_))))))));refine Zae (ZaU rfl (rfl) (Zaq (Zaf (Zaf (Zab (Zaa.go (Zac rfl rfl) (Zae (ZaU rfl (rfl) ?_))))))));refine Zaq (Zaf (Zaf (Zab (Zaa.go (Zac rfl rfl) (Zaa.go (Zac rfl rfl) (Zaa.go (st_lssS rfl rfl rfl) (Zae (Zby rfl (fun h16 => ?_) (fun h16 => ?_)))))))))
  · rw [Zcl] at h16;refine Zaf (Zab (Zaa.go (Zad rfl rfl) (Zae (Zas ?_))));exact ⟨_, [], [], Zao rfl, rfl, rfl, by first | exact retI (by unfold cmpS; rw [if_pos h16]) | exact retI (by unfold cmpS; rw [if_neg (by rw [h16]; decide), if_pos h19]) | exact retI (by unfold cmpS; rw [if_neg (by rw [h16]; decide), if_neg (by rw [h19]; decide)]), rfl⟩
  · rw [Zcl] at h16;refine Zaq (Zaf (Zaf (Zab (Zaa.go (Zac rfl rfl) (Zaa.go (Zac rfl rfl) (Zaa.go (st_gtrS rfl rfl rfl) (Zae (Zby rfl (fun h19 => ?_) (fun h19 => ?_)))))))))
    · rw [Zcl] at h19;refine Zaf (Zab (Zaa.go (Zad rfl rfl) (Zae (Zas ?_))));exact ⟨_, [], [], Zao rfl, rfl, rfl, by first | exact retI (by unfold cmpS; rw [if_pos h16]) | exact retI (by unfold cmpS; rw [if_neg (by rw [h16]; decide), if_pos h19]) | exact retI (by unfold cmpS; rw [if_neg (by rw [h16]; decide), if_neg (by rw [h19]; decide)]), rfl⟩
    · rw [Zcl] at h19;refine Zaq (Zaf (Zab (Zaa.go (Zad rfl rfl) (Zae (Zas ?_)))));exact ⟨_, [], [], Zao rfl, rfl, rfl, by first | exact retI (by unfold cmpS; rw [if_pos h16]) | exact retI (by unfold cmpS; rw [if_neg (by rw [h16]; decide), if_pos h19]) | exact retI (by unfold cmpS; rw [if_neg (by rw [h16]; decide), if_neg (by rw [h19]; decide)]), rfl⟩
end Go.Proofs.YtneihdahboilnaaGreat

/- Layer 28, plain: what an item's check says. No program in sight. -/
namespace Go.Proofs.YtneihdahboilnaaGreat
open Go.RowKit

abbrev Mx : Int := 1000000000000000
def fst0 : List Int → Int
  | [] => 0
  | e :: r => if e = 0 then fst0 r else e
theorem fst0_drop {α : Type} {l : List α} {f : α → Int} {k : Nat} (hk : k < l.length) : fst0 ((l.drop k).map f) = if f l[k] = 0 then fst0 ((l.drop (k + 1)).map f) else f l[k] := by
  rw [List.drop_eq_getElem_cons hk]; rfl
theorem fst0_end {α : Type} {l : List α} {f : α → Int} {k : Nat} (hk : ¬ k < l.length) : fst0 ((l.drop k).map f) = 0 := by
  rw [List.drop_of_length_le (by omega)]; rfl
theorem Zb6 {α : Type} {l : List α} {f : α → Int} {k : Nat} {E : Int} (hk : k < l.length) (h : E = fst0 ((l.drop k).map f)) : (f l[k] = 0 → E = fst0 ((l.drop (k + 1)).map f)) ∧ ∀ e, f l[k] = e → e ≠ 0 → e = E := by
  rw [fst0_drop hk] at h;exact ⟨fun h0 => by rw [h, if_pos h0], fun e h1 h2 => by rw [h, if_neg (by rw [h1]; exact h2), h1]⟩
def pErr (p : Post) : Int := if p.acc.o = [] ∨ p.acc.a = [] then 6 else if ¬ (0 ≤ p.acc.k ∧ p.acc.k ≤ 4) then 11 else if ¬ (-Mx ≤ p.d ∧ p.d ≤ Mx) then 12 else 0
def yErr (p : Pay) : Int := if p.f = [] ∨ p.t = [] then 6 else if p.f = p.t then 7 else if ¬ (0 ≤ p.n ∧ p.n ≤ Mx) then 2 else 0
def aErr (id : Int) (l : List Int) (k : Nat) : Int := if ¬ (0 ≤ l.getD k 0 ∧ l.getD k 0 ≤ 1000000000) then 2 else if l.getD k 0 = id ∨ l.getD k 0 ∈ l.take k then 7 else 0
def postE (i : Itm) : Int := fst0 (i.po.map pErr)
def payE (i : Itm) : Int := fst0 (i.pa.map yErr)
def aftE (i : Itm) : Int := fst0 ((List.range i.af.length).map (aErr i.id i.af))
def assetSum (l : List Post) (a : List UInt8) : Int := (l.map fun p => if p.acc.a = a then p.d else 0).sum
def balE (i : Itm) : Int := if ∃ p ∈ i.po, assetSum i.po p.acc.a ≠ 0 then 14 else 0
end Go.Proofs.YtneihdahboilnaaGreat

/- Layer 28: searching lists of numbers; the checks of an item's parts. -/
namespace Go.Proofs.YtneihdahboilnaaGreat
open Go.RowKit

theorem not_mem_take_succ {α : Type} {l : List α} {x : α} {k : Nat} (hk : k < l.length) (h : x ∉ l.take k) (hne : x ≠ l[k]) : x ∉ l.take (k + 1) := by
  rw [List.take_succ_eq_append_getElem hk, List.mem_append]
  simp [h, hne]
theorem mem_of_take {α : Type} {l : List α} {x : α} {k : Nat} (hk : ¬ k < l.length) (h : x ∉ l.take k) : x ∉ l := by
  rwa [List.take_of_length_le (by omega)] at h
def ixI (x : Int) (l : List Int) : Int := if x ∈ l then (l.idxOf x : Int) else -1
theorem idxOf_at {l : List Int} {x : Int} {k : Nat} (hk : k < l.length) (h : x ∉ l.take k) (he : x = l[k]) : ixI x l = (k : Int) := by
  unfold ixI;rw [if_pos (by rw [he]; exact List.getElem_mem hk)];have h1 : l = l.take k ++ l[k] :: l.drop (k + 1) := by rw [← List.drop_eq_getElem_cons hk, List.take_append_drop]
  rw [h1, List.idxOf_append, if_neg h, he, List.idxOf_cons_self]
  simp; omega
theorem index_p (l : List Int) (x : Int) (hn : l.length ≤ 140737488355328) : PCalls Tryz.prog 149 [.d (.sl none (l.map intD)), .d (intD x)] (intD (ixI x l)) := by
  refine Zaz Tryz.func149 rfl rfl Tryz.ntmps149 rfl rfl rfl fun F hF => (Zaf (Zab (Zaa.go (Zad rfl rfl) (Zae ?_))));refine Zaf (Zaf (Zab (Zaa.go (Zac rfl rfl) (Zaa.go (Zax rfl Tryz.underlying28 rfl) (Zaa.go (Zac rfl rfl) (Zae (Zar (a_loop (α := Nat) (fun k => ⟨19, [(0, .d (.sl none (l.map intD))), (1, .d (intD x)), (7, (.d (intD (l.length : Int)))), (8, (.d (intD (k : Int))))], []⟩) (fun k => k ≤ l.length ∧ x ∉ l.take k) (fun k => l.length - k) (0) (⟨Nat.zero_le _, by simp⟩) (le_of_has ⟨rfl, rfl, rfl, rfl, trivial⟩) ?_))))))));rintro k ⟨hk0, hk⟩;refine Zaf (Zab (Zaa.go (ZaG rfl rfl rfl) (Zae (Zaf (ZaE rfl (fun h9 => ?_) (fun h9 => ?_))))))
  · have hk1 : k < l.length := ZaJ h9;refine Zaq (Zaf (Zar (Zaf (Zab (Zaa.go (Zac rfl rfl) (Zaa.go (Zad rfl rfl) (Zae (Zaf ?_))))))));refine Zab (Zaa.go (Zac rfl rfl) (Zaa.go (Zac rfl rfl) (Zaa.go (Zac rfl rfl) (Zaa.go (Zav (k) rfl rfl (rfl) (getm hk1) Tryz.underlying28 rfl sz3 rfl) (Zaa.go (ZaF rfl rfl on3 rfl) (Zaa.go (Za1 rfl rfl rfl) (Zae (ZaE rfl (fun h16 => ?_) (fun h16 => ?_)))))))))
    · refine Zaf (Zab (Zaa.go (Zac rfl rfl) (Zaa.go (Zad rfl rfl) (Zae (Zas ?_)))));exact ⟨_, [], [], Zao rfl, rfl, rfl, retI (idxOf_at hk1 hk h16).symm, rfl⟩
    · refine Zaq (Zab (Zaa.go (Zay rfl rfl (wrapS (k + 1) (by omega)) rfl) (Zaa.go (Zac rfl rfl) (Zae ?_))));exact ⟨k + 1, ⟨by show k + 1 ≤ _; omega, not_mem_take_succ hk1 hk h16⟩, by show l.length - (k + 1) < l.length - k; omega, ⟨rfl, rfl, fun _ _ => Has.get (l := [(0, _), (1, _), (7, _), (8, _)]) ⟨rfl, rfl, rfl, rfl, trivial⟩⟩⟩
  · refine ZaI (Zaf (Zab (Zaa.go (Zad rfl rfl) (Zae (Zas ?_)))));exact ⟨_, [], [], Zao rfl, rfl, rfl, retI (by unfold ixI; rw [if_neg (mem_of_take (by have h := h9; omega) hk)]), rfl⟩
theorem contains_p (l : List Int) (x : Int) (hn : l.length ≤ 140737488355328) : PCalls Tryz.prog 133 [.d (.sl none (l.map intD)), .d (intD x)] (.raw (.bool (decide (x ∈ l)))) := by
  refine Zaz Tryz.func133 rfl rfl Tryz.ntmps133 rfl rfl rfl fun F hF => (Zaf (Zab (Zaa.go (Zad rfl rfl) (Zae ?_))));refine Zaf (Zab (Zaa.go (Zac rfl rfl) (Zaa.go (Zac rfl rfl) (Zaa.go (Zan (index_p l x hn) rfl rfl) (Zaa.go (st_geq rfl rfl rfl) (Zaa.go (Zad rfl rfl) (Zae (Zas ?_))))))));exact ⟨_, [], [], Zao rfl, rfl, rfl, retB (by unfold ixI; split <;> rename_i h <;> simp [h] <;> omega), rfl⟩
theorem has_p (l : List Int) (x : Int) (hn : l.length ≤ 140737488355328) : PCalls Tryz.prog 55 [.d (.sl none (l.map intD)), .d (intD x)] (.raw (.bool (decide (x ∈ l)))) := by
  refine Zaz Tryz.func55 rfl rfl Tryz.ntmps55 rfl rfl rfl fun F hF => (Zaf (Zab ?_));refine Zaa.go (Zad rfl rfl) (Zae (Zaf (Zaf (Zab (Zaa.go (Zad rfl rfl) (Zae (Zar (a_loop (α := Nat) (fun k => ⟨18, [(0, .d (.sl none (l.map intD))), (1, .d (intD x)), (5, (.d (intD (k : Int))))], []⟩) (fun k => k ≤ l.length ∧ x ∉ l.take k) (fun k => l.length - k) (0) (⟨Nat.zero_le _, by simp⟩) (le_of_has ⟨rfl, rfl, rfl, trivial⟩) ?_))))))));rintro k ⟨hk0, hk⟩;refine Zaf (Zaf (Zab (Zaa.go (Zac rfl rfl) (Zaa.go (Zac rfl rfl) (Zaa.go (Zax rfl Tryz.underlying28 rfl) (Zaa.go (ZaG rfl rfl rfl) (Zae (ZaE rfl (fun h9 => ?_) (fun h9 => ?_)))))))))
  · have hk1 : k < l.length := ZaJ h9;refine Zaq (Zaf (Zar (Zaf ?_)));refine Zab (Zaa.go (Zac rfl rfl) (Zaa.go (Zac rfl rfl) (Zaa.go (Zav (k) rfl rfl (rfl) (getm hk1) Tryz.underlying28 rfl sz3 rfl) (Zaa.go (ZaF rfl rfl on3 rfl) (Zaa.go (Zac rfl rfl) (Zaa.go (Za1 rfl rfl rfl) (Zae (ZaE rfl (fun h17 => ?_) (fun h17 => ?_)))))))))
    · refine Zaf (Zab (Zaa.go (Zad rfl rfl) (Zae (Zas ?_))));exact ⟨_, [], [], Zao rfl, rfl, rfl, retT (by rw [← h17]; exact List.getElem_mem hk1), rfl⟩
    · refine Zaq (Zab (Zaa.go (Zac rfl rfl) (Zaa.go (Zay rfl rfl (wrapS (k + 1) (by omega)) rfl) (Zaa.go (Zad rfl rfl) (Zae ?_)))));exact ⟨k + 1, ⟨by show k + 1 ≤ _; omega, not_mem_take_succ hk1 hk (fun e => h17 e.symm)⟩, by show l.length - (k + 1) < l.length - k; omega, ⟨rfl, rfl, fun _ _ => Has.get (l := [(0, _), (1, _), (5, _)]) ⟨rfl, rfl, rfl, trivial⟩⟩⟩
  · refine ZaI (Zaf (Zab (Zaa.go (Zad rfl rfl) (Zae (Zas ?_)))));exact ⟨_, [], [], Zao rfl, rfl, rfl, retF (mem_of_take (by have h := h9; omega) hk), rfl⟩
set_option maxRecDepth 100000 in
theorem postings_p (i : Itm) (hn : i.po.length ≤ 140737488355328) : PCalls Tryz.prog 114 [.d (itmD i)] (intD (postE i)) := by
  refine Zaz Tryz.func114 rfl rfl Tryz.ntmps114 rfl rfl rfl fun F hF => (Zaf (Zab (Zal.go (ZaO 1 rfl rfl rfl rfl rfl rfl rfl) (Zaa.go (Zad rfl rfl) (Zae (Zaf ?_))))));refine Zaf (Zab (Zaa.go (Zai rfl fi91_3 rfl rfl rfl) (Zaa.go (Zaj rfl rfl rfl on88 rfl) (Zaa.go (Zax rfl Tryz.underlying88 rfl) (Zaa.go (Zac rfl rfl) (Zae (Zar (ZaH (α := Nat) (fun k => ⟨35, [(1, (.ptr 1 0 0)), (6, (.d (.sl none (i.po.map postD)))), (7, (.d (intD (i.po.length : Int)))), (8, (.d (intD (k : Int))))], [(1, [.blk 91 [.d (intD i.id), .d (intD i.pr), .d (intD i.sq), .d (.sl none (i.po.map postD)), .d (.sl none (i.pa.map payD)), .d (.sl none (i.af.map intD))]])]⟩) (fun k => k ≤ i.po.length ∧ postE i = fst0 ((i.po.drop k).map pErr)) (fun k => i.po.length - k) (0) (⟨Nat.zero_le _, rfl⟩) (Zat hF [1] rfl rfl ⟨rfl, rfl, rfl, rfl, trivial⟩) ?_))))))));rintro k ⟨hk0, hk⟩;refine Zaf (Zab (Zaa.go (ZaG rfl rfl rfl) (Zae (Zaf (ZaE rfl (fun h9 => ?_) (fun h9 => ?_))))))
  · have hk1 : k < i.po.length := ZaJ h9;refine Zaq (Zaf (Zar (Zaf (Zab ?_))));have hE := Zb6 hk1 hk;refine Zaa.go (Zav (k) rfl rfl (rfl) (getm hk1) Tryz.underlying88 rfl sz144 rfl) (Zaa.go (ZaP rfl rfl rw144 rfl) (Zal.go (ZaR 2 zl144 rfl rfl rfl rfl) (Zal.go (ZaA rfl rfl rfl rfl rfl rfl rfl sz144) (Zae ?_))));refine Zar (Zaf (Zab (Zaa.go (Zai rfl fi144_0 rfl rfl rfl) (Zaa.go (Zai rfl fi49_0 rfl rfl rfl) (Zaa.go (Zaj rfl rfl rfl on9 rfl) (Zaa.go (Zbe rfl rfl rfl) (Zaa.go (Zac rfl rfl) (ZaT 17 rfl (fun h17 => ?_) (fun h17 => ?_)))))))))
    · refine Zak rfl rfl rfl rfl (Zak rfl rfl rfl rfl (Zak rfl rfl rfl rfl (Zak rfl rfl rfl rfl ?_)));refine Zaa.go (Zaw rfl rfl rfl rfl) (Zaa.go (Zad rfl rfl) (Zae (ZaQ rfl rfl (Zaf (Zab (Zaa.go (Zad rfl rfl) (Zae (Zas ?_))))))));exact ⟨_, [], [], Zao rfl, rfl, rfl, retI (hE.2 6 (by unfold pErr; rw [if_pos (.inl h17)]) (by decide)), rfl⟩
    · refine Zam rfl rfl rfl (Zaa.go (Zai rfl fi144_0 rfl rfl rfl) (Zam rfl rfl rfl ?_));refine Zaa.go (Zai rfl fi49_2 rfl rfl rfl) (Zam rfl rfl rfl (Zaa.go (Zaj rfl rfl rfl on9 rfl) (Zam rfl rfl rfl (Zaa.go (Zbe rfl rfl rfl) (Zaa.go (ZaB rfl rfl rfl rfl) (Zaa.go (Zad rfl rfl) (Zae (ZaE rfl (fun h12 => ?_) (fun h12 => ?_)))))))))
      · refine Zaf (Zab (Zaa.go (Zad rfl rfl) (Zae (Zas ?_))));exact ⟨_, [], [], Zao rfl, rfl, rfl, retI (hE.2 6 (by unfold pErr; rw [if_pos (.inr h12)]) (by decide)), rfl⟩
      · refine Zaf ?_;refine Zab (Zaa.go (Zai rfl fi144_0 rfl rfl rfl) (Zaa.go (Zai rfl fi49_1 rfl rfl rfl) (Zaa.go (Zaj rfl rfl rfl on3 rfl) (Zaa.go (Zan (within_p _ _ _) rfl rfl) (Zaa.go (Zbp rfl rfl) (Zaa.go (Zad rfl rfl) (Zae (ZaE rfl (fun h23 => ?_) (fun h23 => ?_)))))))))
        · refine Zaf (Zab (Zaa.go (Zad rfl rfl) (Zae (Zas ?_))));exact ⟨_, [], [], Zao rfl, rfl, rfl, retI (hE.2 11 (by unfold pErr; rw [if_neg (by simp [h17, h12]), if_pos h23]) (by decide)), rfl⟩
        · refine Zaf (Zab (Zaa.go (Zai rfl fi144_1 rfl rfl rfl) (Zaa.go (Zaj rfl rfl rfl on2 rfl) (Zaa.go (Zan (within64_p _ _ _) rfl rfl) (Zaa.go (Zbp rfl rfl) (Zaa.go (Zad rfl rfl) (Zae (ZaE rfl (fun h29 => ?_) (fun h29 => ?_)))))))))
          · refine Zaf (Zab (Zaa.go (Zad rfl rfl) (Zae (Zas ?_))));exact ⟨_, [], [], Zao rfl, rfl, rfl, retI (hE.2 12 (by unfold pErr; rw [if_neg (by simp [h17, h12]), if_neg h23, if_pos h29]) (by decide)), rfl⟩
          · refine Zaq (Zab (Zaa.go (Zay rfl rfl (wrapS (k + 1) (by omega)) rfl) (Zaa.go (Zac rfl rfl) (Zae ?_))));exact ⟨k + 1, ⟨by show k + 1 ≤ _; omega, hE.1 (by unfold pErr; rw [if_neg (by simp [h17, h12]), if_neg h23, if_neg h29])⟩, by show i.po.length - (k + 1) < i.po.length - k; omega, Zat hF [1] rfl (rfl) ⟨rfl, rfl, rfl, rfl, trivial⟩⟩
  · refine ZaI (Zaf (Zab (Zaa.go (Zad rfl rfl) (Zae (Zas ?_)))));exact ⟨_, [], [], Zao rfl, rfl, rfl, retI (by rw [hk, fst0_end (by have h := h9; omega)]), rfl⟩
set_option maxRecDepth 100000 in
theorem payments_p (i : Itm) (hn : i.pa.length ≤ 140737488355328) : PCalls Tryz.prog 115 [.d (itmD i)] (intD (payE i)) := by
  refine Zaz Tryz.func115 rfl rfl Tryz.ntmps115 rfl rfl rfl fun F hF => (Zaf (Zab (Zal.go (ZaO 1 rfl rfl rfl rfl rfl rfl rfl) (Zaa.go (Zad rfl rfl) (Zae (Zaf ?_))))));refine Zaf (Zab (Zaa.go (Zai rfl fi91_4 rfl rfl rfl) (Zaa.go (Zaj rfl rfl rfl on89 rfl) (Zaa.go (Zax rfl Tryz.underlying89 rfl) (Zaa.go (Zac rfl rfl) (Zae (Zar (ZaH (α := Nat) (fun k => ⟨33, [(1, (.ptr 1 0 0)), (6, (.d (.sl none (i.pa.map payD)))), (7, (.d (intD (i.pa.length : Int)))), (8, (.d (intD (k : Int))))], [(1, [.blk 91 [.d (intD i.id), .d (intD i.pr), .d (intD i.sq), .d (.sl none (i.po.map postD)), .d (.sl none (i.pa.map payD)), .d (.sl none (i.af.map intD))]])]⟩) (fun k => k ≤ i.pa.length ∧ payE i = fst0 ((i.pa.drop k).map yErr)) (fun k => i.pa.length - k) (0) (⟨Nat.zero_le _, rfl⟩) (Zat hF [1] rfl rfl ⟨rfl, rfl, rfl, rfl, trivial⟩) ?_))))))));rintro k ⟨hk0, hk⟩;refine Zaf (Zab (Zaa.go (ZaG rfl rfl rfl) (Zae (Zaf (ZaE rfl (fun h9 => ?_) (fun h9 => ?_))))))
  · have hk1 : k < i.pa.length := ZaJ h9;refine Zaq (Zaf (Zar (Zaf (Zab ?_))));have hE := Zb6 hk1 hk;refine Zaa.go (Zav (k) rfl rfl (rfl) (getm hk1) Tryz.underlying89 rfl sz145 rfl) (Zaa.go (ZaP rfl rfl rw145 rfl) (Zal.go (ZaR 2 zl145 rfl rfl rfl rfl) (Zal.go (ZaA rfl rfl rfl rfl rfl rfl rfl sz145) ?_)));refine Zae (Zar (Zaf (Zab (Zaa.go (Zai rfl fi145_0 rfl rfl rfl) (Zaa.go (Zaj rfl rfl rfl on9 rfl) (Zaa.go (Zbe rfl rfl rfl) (Zaa.go (Zac rfl rfl) (ZaT 16 rfl (fun h16 => ?_) (fun h16 => ?_)))))))))
    · refine Zak rfl rfl rfl rfl (Zak rfl rfl rfl rfl (Zak rfl rfl rfl rfl ?_));refine Zaa.go (Zaw rfl rfl rfl rfl) (Zaa.go (Zad rfl rfl) (Zae (ZaQ rfl rfl (Zaf (Zab (Zaa.go (Zad rfl rfl) (Zae (Zas ?_))))))));exact ⟨_, [], [], Zao rfl, rfl, rfl, retI (hE.2 6 (by unfold yErr; rw [if_pos (.inl h16)]) (by decide)), rfl⟩
    · refine Zam rfl rfl rfl ?_;refine Zaa.go (Zai rfl fi145_1 rfl rfl rfl) (Zam rfl rfl rfl (Zaa.go (Zaj rfl rfl rfl on9 rfl) (Zam rfl rfl rfl (Zaa.go (Zbe rfl rfl rfl) (Zaa.go (ZaB rfl rfl rfl rfl) (Zaa.go (Zad rfl rfl) (Zae (ZaE rfl (fun h12 => ?_) (fun h12 => ?_)))))))))
      · refine Zaf (Zab (Zaa.go (Zad rfl rfl) (Zae (Zas ?_))));exact ⟨_, [], [], Zao rfl, rfl, rfl, retI (hE.2 6 (by unfold yErr; rw [if_pos (.inr h12)]) (by decide)), rfl⟩
      · refine Zaf ?_;refine Zab (Zaa.go (Zai rfl fi145_0 rfl rfl rfl) (Zaa.go (Zaj rfl rfl rfl on9 rfl) (Zaa.go (Zai rfl fi145_1 rfl rfl rfl) (Zaa.go (Zaj rfl rfl rfl on9 rfl) (Zaa.go (Zbe rfl rfl rfl) (Zaa.go (Zad rfl rfl) (Zae (ZaE rfl (fun h21 => ?_) (fun h21 => ?_)))))))))
        · refine Zaf (Zab (Zaa.go (Zad rfl rfl) (Zae (Zas ?_))));exact ⟨_, [], [], Zao rfl, rfl, rfl, retI (hE.2 7 (by unfold yErr; rw [if_neg (by simp [h16, h12]), if_pos h21]) (by decide)), rfl⟩
        · refine Zaf (Zab (Zaa.go (Zai rfl fi145_2 rfl rfl rfl) (Zaa.go (Zaj rfl rfl rfl on2 rfl) (Zaa.go (Zan (within64_p _ _ _) rfl rfl) (Zaa.go (Zbp rfl rfl) (Zaa.go (Zad rfl rfl) (Zae (ZaE rfl (fun h27 => ?_) (fun h27 => ?_)))))))))
          · refine Zaf (Zab (Zaa.go (Zad rfl rfl) (Zae (Zas ?_))));exact ⟨_, [], [], Zao rfl, rfl, rfl, retI (hE.2 2 (by unfold yErr; rw [if_neg (by simp [h16, h12]), if_neg h21, if_pos h27]) (by decide)), rfl⟩
          · refine Zaq (Zab (Zaa.go (Zay rfl rfl (wrapS (k + 1) (by omega)) rfl) (Zaa.go (Zac rfl rfl) (Zae ?_))));exact ⟨k + 1, ⟨by show k + 1 ≤ _; omega, hE.1 (by unfold yErr; rw [if_neg (by simp [h16, h12]), if_neg h21, if_neg h27])⟩, by show i.pa.length - (k + 1) < i.pa.length - k; omega, Zat hF [1] rfl (rfl) ⟨rfl, rfl, rfl, rfl, trivial⟩⟩
  · refine ZaI (Zaf (Zab (Zaa.go (Zad rfl rfl) (Zae (Zas ?_)))));exact ⟨_, [], [], Zao rfl, rfl, rfl, retI (by rw [hk, fst0_end (by have h := h9; omega)]), rfl⟩
theorem Zb4 {n k : Nat} {f : Nat → Int} {E : Int} (hk : k < n) (h : E = fst0 (((List.range n).drop k).map f)) : (f k = 0 → E = fst0 (((List.range n).drop (k + 1)).map f)) ∧ ∀ e, f k = e → e ≠ 0 → e = E := by
  have := Zb6 (l := List.range n) (k := k) (by simpa using hk) h
  simpa using this
set_option maxRecDepth 100000 in
theorem after_p (i : Itm) (hn : i.af.length ≤ 140737488355328) : PCalls Tryz.prog 116 [.d (itmD i)] (intD (aftE i)) := by
  refine Zaz Tryz.func116 rfl rfl Tryz.ntmps116 rfl rfl rfl fun F hF => (Zaf (Zab (Zal.go (ZaO 1 rfl rfl rfl rfl rfl rfl rfl) (Zaa.go (Zad rfl rfl) (Zae (Zaf ?_))))));refine Zaf (Zab (Zaa.go (Zai rfl fi91_5 rfl rfl rfl) (Zaa.go (Zaj rfl rfl rfl on28 rfl) (Zaa.go (Zax rfl Tryz.underlying28 rfl) (Zaa.go (Zac rfl rfl) (Zae (Zar (ZaH (α := Nat) (fun k => ⟨31, [(1, (.ptr 1 0 0)), (6, (.d (.sl none (i.af.map intD)))), (7, (.d (intD (i.af.length : Int)))), (8, (.d (intD (k : Int))))], [(1, [.blk 91 [.d (intD i.id), .d (intD i.pr), .d (intD i.sq), .d (.sl none (i.po.map postD)), .d (.sl none (i.pa.map payD)), .d (.sl none (i.af.map intD))]])]⟩) (fun k => k ≤ i.af.length ∧ aftE i = fst0 (((List.range i.af.length).drop k).map (aErr i.id i.af))) (fun k => i.af.length - k) (0) (⟨Nat.zero_le _, rfl⟩) (Zat hF [1] rfl rfl ⟨rfl, rfl, rfl, rfl, trivial⟩) ?_))))))));rintro k ⟨hk0, hk⟩;refine Zaf (Zab (Zaa.go (ZaG rfl rfl rfl) (Zae (Zaf (ZaE rfl (fun h9 => ?_) (fun h9 => ?_))))))
  · have hk1 : k < i.af.length := ZaJ h9;refine Zaq (Zaf (Zar (Zaf (Zab ?_))));have hE := Zb4 hk1 hk;have hg : i.af.getD k 0 = i.af[k] := by simp [hk1]
    refine Zaa.go (Zac rfl rfl) (Zaa.go (Zav (k) rfl rfl (rfl) (getm hk1) Tryz.underlying28 rfl sz3 rfl) (Zaa.go (ZaF rfl rfl on3 rfl) (Zaa.go (Zad rfl rfl) (Zaa.go (Zad rfl rfl) (Zae ?_)))));refine Zar (Zaf (Zab (Zaa.go (Zac rfl rfl) (Zaa.go (Zan (within_p _ _ _) rfl rfl) (Zaa.go (Zbp rfl rfl) (Zaa.go (Zad rfl rfl) (Zae (ZaE rfl (fun h13 => ?_) (fun h13 => ?_)))))))))
    · refine Zaf (Zab (Zaa.go (Zad rfl rfl) (Zae (Zas ?_))));exact ⟨_, [], [], Zao rfl, rfl, rfl, retI (hE.2 2 (by unfold aErr; rw [hg, if_pos h13]) (by decide)), rfl⟩
    · refine Zaf (Zab (Zaa.go (Zac rfl rfl) (Zaa.go (Zai rfl ZbP rfl rfl rfl) (Zaa.go (Zaj rfl rfl rfl on3 rfl) (Zaa.go (Za1 rfl rfl rfl) (Zaa.go (Zac rfl rfl) (ZaT 22 rfl (fun h22 => ?_) (fun h22 => ?_))))))))
      · refine Zak rfl rfl rfl rfl (Zak rfl rfl rfl rfl (Zak rfl rfl rfl rfl (Zak rfl rfl rfl rfl (Zak rfl rfl rfl rfl (Zak rfl rfl rfl rfl ?_)))));refine Zaa.go (Zaw rfl rfl rfl rfl) (Zaa.go (Zad rfl rfl) (Zae (ZaQ rfl rfl (Zaf (Zab (Zaa.go (Zad rfl rfl) (Zae (Zas ?_))))))));exact ⟨_, [], [], Zao rfl, rfl, rfl, retI (hE.2 7 (by unfold aErr; rw [hg, if_neg h13, if_pos (.inl h22)]) (by decide)), rfl⟩
      · refine Zam rfl rfl rfl (Zaa.go (Zai rfl fi91_5 rfl rfl rfl) (Zam rfl rfl rfl (Zaa.go (Zaj rfl rfl rfl on28 rfl) (Zam rfl rfl rfl (Zaa.go (Zac rfl rfl) (Zam rfl rfl rfl ?_))))));refine Zaa.go (ZbK (i.af) (k) rfl rfl rfl (rfl) (by omega) Tryz.underlying28 sz3 (fun _ => rfl) rfl) (Zam rfl rfl rfl (Zaa.go (Zac rfl rfl) (Zam rfl rfl rfl (Zaa.go (Zan (contains_p (i.af.take k) _ (by simp; omega)) rfl rfl) (Zaa.go (ZaB rfl rfl rfl rfl) (Zaa.go (Zad rfl rfl) (Zae (ZaE rfl (fun h17 => ?_) (fun h17 => ?_)))))))))
        · refine Zaf (Zab (Zaa.go (Zad rfl rfl) (Zae (Zas ?_))));exact ⟨_, [], [], Zao rfl, rfl, rfl, retI (hE.2 7 (by unfold aErr; rw [hg, if_neg h13, if_pos (.inr h17)]) (by decide)), rfl⟩
        · refine Zaq (Zab (Zaa.go (Zay rfl rfl (wrapS (k + 1) (by omega)) rfl) (Zaa.go (Zac rfl rfl) (Zae ?_))));exact ⟨k + 1, ⟨by show k + 1 ≤ _; omega, hE.1 (by unfold aErr; rw [hg, if_neg h13, if_neg (by simp [h22]; exact h17)])⟩, by show i.af.length - (k + 1) < i.af.length - k; omega, Zat hF [1] rfl (rfl) ⟨rfl, rfl, rfl, rfl, trivial⟩⟩
  · refine ZaI (Zaf (Zab (Zaa.go (Zad rfl rfl) (Zae (Zas ?_)))));exact ⟨_, [], [], Zao rfl, rfl, rfl, retI (by rw [hk, fst0_end (by simp; have h := h9; omega)]), rfl⟩
end Go.Proofs.YtneihdahboilnaaGreat
/- Layer 28: sums by asset, sums by resource. -/
namespace Go.Proofs.YtneihdahboilnaaGreat
open Go.RowKit

theorem assetSum_snoc (l : List Post) (p : Post) (a : List UInt8) : assetSum (l ++ [p]) a = assetSum l a + if p.acc.a = a then p.d else 0 := by simp [assetSum]
theorem assetSum_bound (l : List Post) (a : List UInt8) (h : ∀ p ∈ l, -Mx ≤ p.d ∧ p.d ≤ Mx) : -(l.length * 1000000000000000) ≤ assetSum l a ∧ assetSum l a ≤ l.length * 1000000000000000 := by
  induction l with
  | nil => simp [assetSum]
  | cons p r ih =>
    have h1 := ih fun q hq => h q (by simp [hq]);have h2 := h p (by simp);have e : assetSum (p :: r) a = (if p.acc.a = a then p.d else 0) + assetSum r a := by simp [assetSum]
    rw [e];simp only [Mx] at h2;have e2 : ((p :: r).length : Int) = r.length + 1 := by simp
    rw [e2]
    split <;> omega
def BalM (l : List Post) (M : List (List UInt8 × Int)) : Prop := (M.map Prod.fst).Nodup ∧ (∀ a, mget M a 0 = assetSum l a) ∧ (∀ a, a ∈ M.map Prod.fst → ∃ p ∈ l, p.acc.a = a) ∧ ∀ p ∈ l, p.acc.a ∈ M.map Prod.fst
theorem mem_put {α β : Type} [DecidableEq α] {M : List (α × β)} {a a' : α} {b : β} : a' ∈ (mput M a b).map Prod.fst ↔ a' = a ∨ a' ∈ M.map Prod.fst := by
  rw [mput_keys]
  split
  · rename_i h
    exact ⟨.inr, fun h' => h'.elim (fun e => by rw [e]; exact h) id⟩
  · simp [or_comm]
theorem BalM.snoc {l : List Post} {M : List (List UInt8 × Int)} (h : BalM l M) (p : Post) : BalM (l ++ [p]) (mput M p.acc.a (mget M p.acc.a 0 + p.d)) := by
  obtain ⟨h1, h2, h3, h4⟩ := h;refine ⟨mput_nodup h1, fun a => ?_, fun a ha => ?_, fun q hq => ?_⟩
  · rw [mget_put, assetSum_snoc]
    split
    · rename_i e; rw [e, h2, if_pos rfl]
    · rename_i e; rw [h2, if_neg (fun e' => e e'.symm)]; omega
  · rcases mem_put.1 ha with e | e
    · exact ⟨p, by simp, e.symm⟩
    · obtain ⟨q, hq, e2⟩ := h3 a e;exact ⟨q, by simp [hq], e2⟩
  · rcases List.mem_append.1 hq with hq | hq
    · exact mem_put.2 (.inr (h4 q hq))
    · simp at hq; subst hq; exact mem_put.2 (.inl rfl)
theorem bal_bad {i : Itm} {M : List (List UInt8 × Int)} (h : BalM i.po M) {j : Nat} {a : List UInt8} {v : Int} (hm : M[j]? = some (a, v)) (hv : v ≠ 0) : (14 : Int) = balE i := by
  have hmem := List.mem_of_getElem? hm;have h1 := ZbU (z := 0) h.1 hmem;rw [h.2.1] at h1;obtain ⟨p, hp, e⟩ := h.2.2.1 a (List.mem_map_of_mem (f := Prod.fst) hmem);unfold balE;rw [if_pos ⟨p, hp, by rw [e, h1]; exact hv⟩]
theorem bal_ok {i : Itm} {M : List (List UInt8 × Int)} (h : BalM i.po M) (h0 : ∀ x ∈ M, x.2 = 0) : (0 : Int) = balE i := by
  unfold balE;rw [if_neg];rintro ⟨p, hp, hne⟩;refine hne ?_;rw [← h.2.1];exact h0 _ (mget_mem (z := 0) (h.2.2.2 p hp))
theorem take_po {l : List Post} {k : Nat} (h : ∀ p ∈ l, -Mx ≤ p.d ∧ p.d ≤ Mx) : ∀ p ∈ l.take k, -Mx ≤ p.d ∧ p.d ≤ Mx := fun p hp => h p (List.mem_of_mem_take hp)
set_option maxRecDepth 100000 in
theorem balanced_p (i : Itm) (hn : i.po.length ≤ 256) (hb : ∀ p ∈ i.po, -Mx ≤ p.d ∧ p.d ≤ Mx) : PCalls Tryz.prog 117 [.d (itmD i)] (intD (balE i)) := by
  refine Zaz Tryz.func117 rfl rfl Tryz.ntmps117 rfl rfl rfl fun F hF => (Zaf (Zab ?_));refine Zal.go (ZaO 1 rfl rfl rfl rfl rfl rfl rfl) (Zaa.go (Zad rfl rfl) (Zae (Zaf (Zab (Zal.go (Zcs 2 rfl rfl rfl rfl) (Zaa.go (Zad rfl rfl) (Zae (Zaf ?_))))))));refine Zaf (Zab (Zaa.go (Zai rfl fi91_3 rfl rfl rfl) (Zaa.go (Zaj rfl rfl rfl on88 rfl) (Zaa.go (Zax rfl Tryz.underlying88 rfl) (Zaa.go (Zac rfl rfl) (Zae (Zar (ZaH (α := Nat × List (List UInt8 × Int)) (fun q => ⟨33, [(3, (.map 2 0)), (10, (.d (.sl none (i.po.map postD)))), (11, (.d (intD (i.po.length : Int)))), (12, (.d (intD (q.1 : Int))))], [(2, [mapC strD intD q.2])]⟩) (fun q => q.1 ≤ i.po.length ∧ BalM (i.po.take q.1) q.2) (fun q => i.po.length - q.1) ((0, [])) (⟨Nat.zero_le _, ⟨by simp, by simp [assetSum, mget], by simp, by simp⟩⟩) (Zat hF [2] rfl rfl ⟨rfl, rfl, rfl, rfl, trivial⟩) ?_))))))));rintro ⟨k, M⟩ ⟨hk0, hM⟩;dsimp only at hk0 hM ⊢;refine Zaf (Zab (Zaa.go (ZaG rfl rfl rfl) (Zae (Zaf (ZaE rfl (fun h13 => ?_) (fun h13 => ?_))))))
  · have hk1 : k < i.po.length := ZaJ h13;refine Zaq (Zaf (Zar (Zaf (Zab ?_))));have hbk := hb _ (List.getElem_mem hk1);have hgb := assetSum_bound (i.po.take k) i.po[k].acc.a (take_po hb);rw [← hM.2.1, List.length_take] at hgb;simp only [Mx] at hbk;refine Zaa.go (Zav (k) rfl rfl (rfl) (getm hk1) Tryz.underlying88 rfl sz144 rfl) (Zaa.go (ZaP rfl rfl rw144 rfl) ?_);refine Zal.go (ZaR 3 zl144 rfl rfl rfl rfl) (Zal.go (ZaA rfl rfl rfl rfl rfl rfl rfl sz144) (Zae (Zab (Zaa.go (Zac rfl rfl) (Zaa.go (Zai rfl fi144_0 rfl rfl rfl) (Zaa.go (Zai rfl fi49_2 rfl rfl rfl) (Zaa.go (Zaj rfl rfl rfl on9 rfl) (Zaa.go (Zbw (M) (i.po[k].acc.a) (0) _ rfl rfl rfl mt212 kt9 za2 rfl rfl) ?_))))))));refine Zaa.go (Zai rfl fi144_1 rfl rfl rfl) (Zaa.go (Zaj rfl rfl rfl on2 rfl) (Zaa.go (Zay rfl rfl (IntWalk.i64_in _ (by omega)) rfl) (Zal.go (st_mapU (M) (i.po[k].acc.a) (mget M i.po[k].acc.a 0 + i.po[k].d) rfl rfl rfl mt212 kt9 rfl rfl) (Zae (Zab (Zaa.go (Zay rfl rfl (wrapS (k + 1) (by omega)) rfl) (Zaa.go (Zac rfl rfl) (Zae ?_))))))));exact ⟨(k + 1, _), ⟨by show k + 1 ≤ _; omega, by have := hM.snoc i.po[k]; rwa [← List.take_succ_eq_append_getElem hk1] at this⟩, by show i.po.length - (k + 1) < i.po.length - k; omega, Zat hF [2] rfl (rfl) ⟨rfl, rfl, rfl, rfl, trivial⟩⟩
  · refine ZaI (Zaf (Zaf ?_));have hM' : BalM i.po M := by rw [List.take_of_length_le (by have h := h13; omega)] at hM; exact hM
    refine Zab (Zaa.go (Zac rfl rfl) (Zal.go (st_range 4 rfl rfl rfl mt212 rfl rfl rfl rfl) (Zae (Zar (ZaH (α := List Nat) (fun seen => ⟨33, [(26, (.ptr 4 0 0))], [(4, [.iter 2 0 M.length seen]), (2, [mapC strD intD M])]⟩) (fun seen => ∀ x ∈ M, x ∈ lft M (List.range M.length) seen ∨ x.2 = 0) (fun seen => (lft M (List.range M.length) seen).length) ([]) (fun x hx => .inl (by rw [lft_start (by simp)]; exact hx)) (Zat hF [4, 2] rfl rfl ⟨rfl, trivial⟩) ?_)))));intro seen hI;refine Zaf (Zab (o_next (M) rfl rfl rfl rfl (fun hl27 => ?_) (fun j27 b27 k27 v27 hm27 hb27 hB27 hp27 => ⟨_, rfl, ?_⟩)))
    · refine Zaa.go (Zbk rfl rfl rfl) ?_;refine Zae (Zaf (ZaU rfl rfl (ZaI (Zaf (Zab (Zaa.go (Zad rfl rfl) (Zae (Zas ?_))))))));exact ⟨_, [], [], Zao rfl, rfl, rfl, retI (bal_ok hM' fun x hx => (hI x hx).elim (fun h => by rw [hl27] at h; cases h) id), rfl⟩
    · refine Zaa.go (Zbk rfl rfl rfl) (Zae (Zaf (ZaQ rfl rfl (Zaq (Zar (Zaf (Zab (Zaa.go (st_entry (M) j27 b27 rfl rfl rfl hm27 hb27 rfl) ?_))))))));refine Zaa.go (Zbk rfl rfl rfl) (Zaa.go (Zad rfl rfl) (Zae (Zaf (Zab (Zaa.go (Zac rfl rfl) (Zaa.go (ZaX rfl rfl rfl) (Zae (ZaE rfl (fun h32 => ?_) (fun h32 => ?_)))))))))
      · refine Zaf (Zab (Zaa.go (Zad rfl rfl) (Zae (Zas ?_))));exact ⟨_, [], [], Zao rfl, rfl, rfl, retI (bal_bad hM' hm27 h32), rfl⟩
      · refine Zaq ?_;exact ⟨seen ++ [b27], fun x hx => (hI x hx).elim (fun h => (List.mem_cons.1 (hp27.mem_iff.1 h)).elim (fun e => .inr (by rw [e]; simpa using h32)) .inl) .inr, by rw [hp27.length_eq]; exact Nat.lt_succ_self _, Zat hF [4, 2] rfl (rfl) ⟨rfl, trivial⟩⟩
end Go.Proofs.YtneihdahboilnaaGreat

/- Layer 28: the sums by resource. -/
namespace Go.Proofs.YtneihdahboilnaaGreat
open Go.RowKit

abbrev acc0 : Acc := ⟨[], 0, []⟩
abbrev rPost (p : Post) : Rsc := ⟨0, p.acc, [], []⟩
abbrev rBil (f t : List UInt8) : Rsc := ⟨1, acc0, f, t⟩
abbrev rMul (f : List UInt8) : Rsc := ⟨2, acc0, f, []⟩
def addL (M : List (Rsc × Int)) (x : Rsc × Int) : List (Rsc × Int) := mput M x.1 (mget M x.1 0 + x.2)
def ctrP (l : List Post) : List (Rsc × Int) := l.map fun p => (rPost p, p.d)
def ctr1 (p : Pay) : List (Rsc × Int) := [(rBil p.f p.t, -p.n), (rBil p.t p.f, p.n), (rMul p.f, -p.n), (rMul p.t, p.n)]
def ctrY (l : List Pay) : List (Rsc × Int) := l.flatMap ctr1
def ctr (i : Itm) : List (Rsc × Int) := ctrP i.po ++ ctrY i.pa
def sumL (l : List (Rsc × Int)) : List (Rsc × Int) := l.foldl addL []
def ctrSum (l : List (Rsc × Int)) (r : Rsc) : Int := (l.map fun x => if x.1 = r then x.2 else 0).sum
theorem ZbI (l : List (Rsc × Int)) (x : Rsc × Int) : sumL (l ++ [x]) = addL (sumL l) x := by simp [sumL]
theorem ctrSum_append (l m : List (Rsc × Int)) (r : Rsc) : ctrSum (l ++ m) r = ctrSum l r + ctrSum m r := by simp [ctrSum]
theorem ctrSum_one (x : Rsc × Int) (r : Rsc) : ctrSum [x] r = if x.1 = r then x.2 else 0 := by simp [ctrSum]
theorem Zb2 {α : Type} {p : List α → Prop} (h0 : p []) (h1 : ∀ l x, p l → p (l ++ [x])) (l : List α) : p l := by
  have : ∀ m : List α, p m.reverse := fun m => by
    induction m with
    | nil => exact h0
    | cons x r ih => rw [List.reverse_cons]; exact h1 _ _ ih
  have := this l.reverse
  rwa [List.reverse_reverse] at this
theorem sumL_get (l : List (Rsc × Int)) (r : Rsc) : mget (sumL l) r 0 = ctrSum l r := by
  revert r
  refine Zb2 (p := fun l => ∀ r, mget (sumL l) r 0 = ctrSum l r) (fun r => rfl) (fun l x ih r => ?_) l;rw [ZbI, addL, mget_put, ctrSum_append, ctrSum_one]
  split
  · rename_i h; rw [ih, h, if_pos rfl]
  · rename_i h; rw [ih, if_neg (fun e => h e.symm)]; omega
theorem sumL_nodup (l : List (Rsc × Int)) : ((sumL l).map Prod.fst).Nodup :=
  Zb2 (p := fun l => ((sumL l).map Prod.fst).Nodup) (by simp [sumL]) (fun l x ih => by rw [ZbI]; exact mput_nodup ih) l
theorem sumL_keys (l : List (Rsc × Int)) (r : Rsc) : r ∈ (sumL l).map Prod.fst ↔ r ∈ l.map Prod.fst := by
  refine Zb2 (p := fun l => r ∈ (sumL l).map Prod.fst ↔ r ∈ l.map Prod.fst) (by simp [sumL]) (fun l x ih => ?_) l;rw [ZbI, addL, mem_put, ih]
  simp [or_comm]
def Bnd (l : List (Rsc × Int)) : Prop := ∀ x ∈ l, -1000000000000000 ≤ x.2 ∧ x.2 ≤ 1000000000000000
theorem ctrSum_bound {l : List (Rsc × Int)} (h : Bnd l) (r : Rsc) : -(l.length * 1000000000000000) ≤ ctrSum l r ∧ ctrSum l r ≤ l.length * 1000000000000000 := by
  induction l with
  | nil => simp [ctrSum]
  | cons x l ih =>
    have h1 := ih fun q hq => h q (by simp [hq]);have h2 := h x (by simp);have e : ctrSum (x :: l) r = (if x.1 = r then x.2 else 0) + ctrSum l r := by simp [ctrSum]
    have e2 : ((x :: l).length : Int) = l.length + 1 := by simp
    rw [e, e2]
    split <;> omega
structure ItmB (i : Itm) : Prop where
  po : i.po.length ≤ 256
  pa : i.pa.length ≤ 256
  af : i.af.length ≤ 256
  d : ∀ p ∈ i.po, -Mx ≤ p.d ∧ p.d ≤ Mx
  n : ∀ p ∈ i.pa, 0 ≤ p.n ∧ p.n ≤ Mx
theorem ctrY_length (l : List Pay) : (ctrY l).length = 4 * l.length := by
  induction l with
  | nil => rfl
  | cons p r ih => simp only [ctrY, List.flatMap_cons, List.length_append, List.length_cons] at ih ⊢; rw [ih]; simp [ctr1]; omega
theorem bnd_P {l : List Post} (h : ∀ p ∈ l, -Mx ≤ p.d ∧ p.d ≤ Mx) : Bnd (ctrP l) := fun x hx => by
  obtain ⟨p, hp, rfl⟩ := List.mem_map.1 hx;have := h p hp;simp only [Mx] at this;exact this
theorem bnd_1 {p : Pay} (h : 0 ≤ p.n ∧ p.n ≤ Mx) : Bnd (ctr1 p) := fun x hx => by
  simp only [Mx] at h;simp only [ctr1, List.mem_cons, List.not_mem_nil, or_false] at hx;rcases hx with rfl | rfl | rfl | rfl <;> simp only <;> omega
theorem bnd_Y {l : List Pay} (h : ∀ p ∈ l, 0 ≤ p.n ∧ p.n ≤ Mx) : Bnd (ctrY l) := fun x hx => by
  obtain ⟨p, hp, hx⟩ := List.mem_flatMap.1 hx;exact bnd_1 (h p hp) x hx
theorem Bnd.append {l m : List (Rsc × Int)} (h : Bnd l) (h' : Bnd m) : Bnd (l ++ m) := fun x hx => (List.mem_append.1 hx).elim (h x) (h' x)
theorem Bnd.take {l : List (Rsc × Int)} (h : Bnd l) (k : Nat) : Bnd (l.take k) := fun x hx => h x (List.mem_of_mem_take hx)
theorem sumL_small {l : List (Rsc × Int)} (h : Bnd l) (hl : l.length ≤ 2000) (r : Rsc) : -2000000000000000000 ≤ mget (sumL l) r 0 ∧ mget (sumL l) r 0 ≤ 2000000000000000000 := by
  have := ctrSum_bound h r;rw [sumL_get]; omega

theorem ctrP_snoc {l : List Post} {k : Nat} (hk : k < l.length) : ctrP (l.take (k + 1)) = ctrP (l.take k) ++ [(rPost l[k], l[k].d)] := by
  simp only [ctrP]; rw [List.take_succ_eq_append_getElem hk, List.map_append]; rfl
theorem ctrY_snoc {l : List Pay} {k : Nat} (hk : k < l.length) : ctrY (l.take (k + 1)) = ctrY (l.take k) ++ ctr1 l[k] := by
  simp only [ctrY]; rw [List.take_succ_eq_append_getElem hk, List.flatMap_append]; simp
def st1 (M : List (Rsc × Int)) (p : Pay) : List (Rsc × Int) := mput M (rBil p.f p.t) (mget M (rBil p.f p.t) 0 - p.n)
def st2 (M : List (Rsc × Int)) (p : Pay) : List (Rsc × Int) := mput M (rBil p.t p.f) (mget M (rBil p.t p.f) 0 + p.n)
def st3 (M : List (Rsc × Int)) (p : Pay) : List (Rsc × Int) := mput M (rMul p.f) (mget M (rMul p.f) 0 - p.n)
def st4 (M : List (Rsc × Int)) (p : Pay) : List (Rsc × Int) := mput M (rMul p.t) (mget M (rMul p.t) 0 + p.n)
theorem st_all {l : List (Rsc × Int)} {p : Pay} {M : List (Rsc × Int)} (h : M = sumL l) : st1 M p = sumL (l ++ [(rBil p.f p.t, -p.n)]) ∧ st2 (st1 M p) p = sumL (l ++ [(rBil p.f p.t, -p.n), (rBil p.t p.f, p.n)]) ∧ st3 (st2 (st1 M p) p) p = sumL (l ++ [(rBil p.f p.t, -p.n), (rBil p.t p.f, p.n), (rMul p.f, -p.n)]) ∧ st4 (st3 (st2 (st1 M p) p) p) p = sumL (l ++ ctr1 p) := by
  subst h;have e : ∀ (l : List (Rsc × Int)) (x : Rsc × Int) (r : List (Rsc × Int)), l ++ x :: r = (l ++ [x]) ++ r := by simp
  refine ⟨?_, ?_, ?_, ?_⟩
  · rw [ZbI]; rfl
  · rw [e, ZbI, ZbI]; rfl
  · rw [e, e, ZbI, ZbI, ZbI]; rfl
  · rw [ctr1, e, e, e, ZbI, ZbI, ZbI, ZbI]; rfl
theorem st_small {l : List (Rsc × Int)} {p : Pay} {M : List (Rsc × Int)} (h : M = sumL l) (hb : Bnd l) (hl : l.length ≤ 1900) (hp : 0 ≤ p.n ∧ p.n ≤ Mx) (r : Rsc) : (-2000000000000000000 ≤ mget M r 0 ∧ mget M r 0 ≤ 2000000000000000000) ∧ (-2000000000000000000 ≤ mget (st1 M p) r 0 ∧ mget (st1 M p) r 0 ≤ 2000000000000000000) ∧ (-2000000000000000000 ≤ mget (st2 (st1 M p) p) r 0 ∧ mget (st2 (st1 M p) p) r 0 ≤ 2000000000000000000) ∧ (-2000000000000000000 ≤ mget (st3 (st2 (st1 M p) p) p) r 0 ∧ mget (st3 (st2 (st1 M p) p) p) r 0 ≤ 2000000000000000000) := by
  obtain ⟨e1, e2, e3, _⟩ := st_all (p := p) h;have hb4 := bnd_1 hp;rw [e3, e2, e1, h];refine ⟨sumL_small hb (by omega) r, sumL_small (hb.append fun x hx => hb4 x ?_) (by simp; omega) r, sumL_small (hb.append fun x hx => hb4 x ?_) (by simp; omega) r, sumL_small (hb.append fun x hx => hb4 x ?_) (by simp; omega) r⟩
  all_goals
    simp only [ctr1, List.mem_cons, List.not_mem_nil, or_false] at hx ⊢
    first
      | exact .inl hx
      | exact hx.elim .inl fun h => .inr (.inl h)
      | exact hx.elim .inl fun h => h.elim (fun h => .inr (.inl h)) fun h => .inr (.inr (.inl h))
set_option maxRecDepth 100000 in
set_option maxHeartbeats 1000000 in
theorem sums_c (i : Itm) (hi : ItmB i) : ACalls Tryz.prog 98 [.d (itmD i)] [] fun r H' => r = .map 2 0 ∧ H' = [(2, [mapC rscD intD (sumL (ctr i))])] := by
  have hpo := hi.po;have hpa := hi.pa;refine Zaz Tryz.func98 rfl rfl Tryz.ntmps98 rfl rfl rfl fun F hF => (Zaf (Zab ?_));refine Zal.go (ZaO 1 rfl rfl rfl rfl rfl rfl rfl) (Zaa.go (Zad rfl rfl) (Zae (Zaf (Zab (Zal.go (Zcs 2 rfl rfl rfl rfl) (Zaa.go (Zad rfl rfl) (Zae (Zaf ?_))))))));refine Zaf (Zab (Zaa.go (Zai rfl fi91_3 rfl rfl rfl) (Zaa.go (Zaj rfl rfl rfl on88 rfl) (Zaa.go (Zax rfl Tryz.underlying88 rfl) (Zaa.go (Zac rfl rfl) (Zae (Zar (ZaH (α := Nat × List (Rsc × Int)) (fun q => ⟨80, [(1, (.ptr 1 0 0)), (3, (.map 2 0)), (10, (.d (.sl none (i.po.map postD)))), (11, (.d (intD (i.po.length : Int)))), (12, (.d (intD (q.1 : Int))))], [(2, [mapC rscD intD q.2]), (1, [.blk 91 [.d (intD i.id), .d (intD i.pr), .d (intD i.sq), .d (.sl none (i.po.map postD)), .d (.sl none (i.pa.map payD)), .d (.sl none (i.af.map intD))]])]⟩) (fun q => q.1 ≤ i.po.length ∧ q.2 = sumL (ctrP (i.po.take q.1))) (fun q => i.po.length - q.1) ((0, [])) (⟨Nat.zero_le _, rfl⟩) (Zat hF [2, 1] rfl rfl ⟨rfl, rfl, rfl, rfl, rfl, trivial⟩) ?_))))))));rintro ⟨k, M⟩ ⟨hk0, hM⟩;dsimp only at hk0 hM ⊢;refine Zaf (Zab (Zaa.go (ZaG rfl rfl rfl) (Zae (Zaf (ZaE rfl (fun h13 => ?_) (fun h13 => ?_))))))
  · have hk1 : k < i.po.length := ZaJ h13;refine Zaq (Zaf (Zar (Zaf (Zab ?_))));have hbk := hi.d _ (List.getElem_mem hk1);simp only [Mx] at hbk;have hgb := sumL_small (l := ctrP (i.po.take k)) (bnd_P (take_po hi.d)) (by simp [ctrP]; omega) (rPost i.po[k]);rw [← hM] at hgb;refine Zaa.go (Zav (k) rfl rfl (rfl) (getm hk1) Tryz.underlying88 rfl sz144 rfl) (Zaa.go (ZaP rfl rfl rw144 rfl) (Zal.go (ZaR 3 zl144 rfl rfl rfl rfl) (Zal.go (ZaA rfl rfl rfl rfl rfl rfl rfl sz144) (Zae (ZaV [[], [], [1], [1, 2], [0, 1, 2, 3], [], [5], [0, 1, 2, 3, 4, 5, 6], [0, 1, 2, 3, 5, 6], [0, 1, 2, 3, 5, 6, 8], [0, 1, 2, 3, 4, 5, 6, 7, 8, 9]] mixed rfl (dws2 2 ([mapC rscD intD (mtouch M (rPost i.po[k]) 0)]) rfl ?_))))));refine Zah [3] [] rfl rfl (fun _ => Zag (Zac rfl rfl)) (Zah [5] [] rfl rfl (fun _ => Zag (Zai rfl fi144_0 rfl rfl rfl)) (ZaN [17] rfl rfl (fun _ => Zag (Zap rfl rfl rw49 rfl rfl rfl)) (Zah [18] [] rfl rfl (fun _ => Zag (Za0 zl51 pl51 rfl rfl rfl)) (d_pure2 [16, 19] [] rfl rfl rfl (fun _ => Zag (Zbw (M) (rPost i.po[k]) (0) _ rfl rfl rfl mt178 kt51 za2 rfl rfl)) (fun _ => Zag (Zbw (mtouch (M) (rPost i.po[k]) (0)) (rPost i.po[k]) (0) _ rfl rfl rfl mt178 kt51 za2 (mget_touch _ _ _ _) rfl)) (Zah [5] [] rfl rfl (fun _ => Zag (Zai rfl fi144_1 rfl rfl rfl)) (ZaN [21] rfl rfl (fun _ => Zag (Zaj rfl rfl rfl on2 rfl)) (Zah [20, 22] [] rfl rfl (fun _ => Zag (Zay rfl rfl (IntWalk.i64_in _ (by omega)) rfl)) (Zbi [16, 19] [2] [(24, _)] rfl rfl (fun _ => Za7 (st_mapE (M) (rPost i.po[k]) (0) rfl rfl rfl mt178 kt51 za2 rfl rfl)) (.inr ⟨24, _, rfl, rfl, rfl, rfl, rfl⟩) rfl rfl rfl rfl rfl ?_ (hCn := c2_wr rfl)))))))));refine Zah [24] [] rfl rfl (fun _ => Zag (Zbk rfl rfl rfl)) (dwc 10 rfl rfl rfl (dw1 11 rfl rfl (Zal.go (st_entS (M) (rPost i.po[k]) (0) (mget M (rPost i.po[k]) 0 + i.po[k].d) rfl rfl rfl kt51 rfl rfl) (Zae ⟨rfl, ?_⟩))));refine dwe (Zab (Zaa.go (Zay rfl rfl (wrapS (k + 1) (by omega)) rfl) (Zaa.go (Zac rfl rfl) (Zae ?_))));exact ⟨(k + 1, _), ⟨by show k + 1 ≤ _; omega, by show _ = sumL (ctrP (i.po.take (k + 1))); rw [ctrP_snoc hk1, ZbI, ← hM]; rfl⟩, by show i.po.length - (k + 1) < i.po.length - k; omega, Zat hF [2, 1] rfl (rfl) ⟨rfl, rfl, rfl, rfl, rfl, trivial⟩⟩
  · refine ZaI (Zaf (Zaf ?_));have hM0 : M = sumL (ctrP i.po ++ ctrY (i.pa.take 0)) := by rw [hM, List.take_of_length_le (by have h := h13; omega)]; simp [ctrY]
    refine Zab (Zaa.go (Zai rfl fi91_4 rfl rfl rfl) (Zaa.go (Zaj rfl rfl rfl on89 rfl) (Zaa.go (Zax rfl Tryz.underlying89 rfl) (Zaa.go (Zac rfl rfl) (Zae (Zar (ZaH (α := Nat × List (Rsc × Int)) (fun q => ⟨80, [(3, (.map 2 0)), (28, (.d (.sl none (i.pa.map payD)))), (29, (.d (intD (i.pa.length : Int)))), (30, (.d (intD (q.1 : Int))))], [(2, [mapC rscD intD q.2])]⟩) (fun q => q.1 ≤ i.pa.length ∧ q.2 = sumL (ctrP i.po ++ ctrY (i.pa.take q.1))) (fun q => i.pa.length - q.1) ((0, M)) (⟨Nat.zero_le _, hM0⟩) (Zat hF [2] rfl rfl ⟨rfl, rfl, rfl, rfl, trivial⟩) ?_)))))));rintro ⟨m, N⟩ ⟨hm0, hN⟩;dsimp only at hm0 hN ⊢;refine Zaf (Zab (Zaa.go (ZaG rfl rfl rfl) (Zae (Zaf (ZaE rfl (fun h31 => ?_) (fun h31 => ?_))))))
    · have hm1 : m < i.pa.length := ZaJ h31;refine Zaq (Zaf (Zar (Zaf (Zab ?_))));have hbm := hi.n _ (List.getElem_mem hm1);have hsm := st_small hN ((bnd_P hi.d).append (bnd_Y fun q hq => hi.n q (List.mem_of_mem_take hq))) (by rw [List.length_append, ctrY_length]; simp [ctrP]; omega) hbm;simp only [Mx] at hbm;refine Zaa.go (Zav (m) rfl rfl (rfl) (getm hm1) Tryz.underlying89 rfl sz145 rfl) (Zaa.go (ZaP rfl rfl rw145 rfl) (Zal.go (ZaR 4 zl145 rfl rfl rfl rfl) (Zal.go (ZaA rfl rfl rfl rfl rfl rfl rfl sz145) (Zae (Zaf (ZaV [[], [], [1], [], [3], [1, 2, 3, 4], [0, 1, 2, 3, 4, 5], [], [7], [0, 1, 2, 3, 4, 5, 6, 7, 8], [0, 1, 2, 3, 4, 5, 7, 8], [0, 1, 2, 3, 4, 5, 7, 8, 10], [0, 1, 2, 3, 4, 5, 6, 7, 8, 9, 10, 11]] mixed rfl (dws2 2 ([mapC rscD intD (mtouch N (rBil i.pa[m].f i.pa[m].t) 0)]) rfl ?_)))))));refine Zah [3] [] rfl rfl (fun _ => Zag (Zac rfl rfl)) (Zah [7] [] rfl rfl (fun _ => Zag (Zai rfl fi145_0 rfl rfl rfl)) (ZaN [35] rfl rfl (fun _ => Zag (Zaj rfl rfl rfl on9 rfl)) (Zah [7] [] rfl rfl (fun _ => Zag (Zai rfl fi145_1 rfl rfl rfl)) (ZaN [37] rfl rfl (fun _ => Zag (Zaj rfl rfl rfl on9 rfl)) (Zah [36, 38] [] rfl rfl (fun _ => Zag (Za0 zl51 pl51 rfl rfl rfl)) (d_pure2 [34, 39] [] rfl rfl rfl (fun _ => Zag (Zbw (N) (rBil i.pa[m].f i.pa[m].t) (0) _ rfl rfl rfl mt178 kt51 za2 rfl rfl)) (fun _ => Zag (Zbw (mtouch (N) (rBil i.pa[m].f i.pa[m].t) (0)) (rBil i.pa[m].f i.pa[m].t) (0) _ rfl rfl rfl mt178 kt51 za2 (mget_touch _ _ _ _) rfl)) (Zah [7] [] rfl rfl (fun _ => Zag (Zai rfl fi145_2 rfl rfl rfl)) (ZaN [41] rfl rfl (fun _ => Zag (Zaj rfl rfl rfl on2 rfl)) ?_))))))));have g := (hsm (rBil i.pa[m].f i.pa[m].t)).1;refine Zah [40, 42] [] rfl rfl (fun _ => Zag (st_sub rfl rfl (IntWalk.i64_in _ (by omega)) rfl)) (Zbi [34, 39] [2] [(44, _)] rfl rfl (fun _ => Za7 (st_mapE (N) (rBil i.pa[m].f i.pa[m].t) (0) rfl rfl rfl mt178 kt51 za2 rfl rfl)) (.inr ⟨44, _, rfl, rfl, rfl, rfl, rfl⟩) rfl rfl rfl rfl rfl ?_ (hCn := c2_wr rfl));refine Zah [44] [] rfl rfl (fun _ => Zag (Zbk rfl rfl rfl)) (dwc 12 rfl rfl rfl (dw1 13 rfl rfl (Zal.go (st_entS (N) (rBil i.pa[m].f i.pa[m].t) (0) (mget N (rBil i.pa[m].f i.pa[m].t) 0 - i.pa[m].n) rfl rfl rfl kt51 rfl rfl) (Zae ⟨rfl, ?_⟩))));refine dwe (Zaf (ZaV [[], [], [1], [], [3], [1, 2, 3, 4], [0, 1, 2, 3, 4, 5], [], [7], [0, 1, 2, 3, 4, 5, 6, 7, 8], [0, 1, 2, 3, 4, 5, 7, 8], [0, 1, 2, 3, 4, 5, 7, 8, 10], [0, 1, 2, 3, 4, 5, 6, 7, 8, 9, 10, 11]] mixed rfl (dws2 2 ([mapC rscD intD (mtouch (st1 N i.pa[m]) (rBil i.pa[m].t i.pa[m].f) 0)]) rfl ?_)));refine Zah [3] [] rfl rfl (fun _ => Zag (Zac rfl rfl)) (Zah [7] [] rfl rfl (fun _ => Zag (Zai rfl fi145_1 rfl rfl rfl)) (ZaN [47] rfl rfl (fun _ => Zag (Zaj rfl rfl rfl on9 rfl)) (Zah [7] [] rfl rfl (fun _ => Zag (Zai rfl fi145_0 rfl rfl rfl)) (ZaN [49] rfl rfl (fun _ => Zag (Zaj rfl rfl rfl on9 rfl)) (Zah [48, 50] [] rfl rfl (fun _ => Zag (Za0 zl51 pl51 rfl rfl rfl)) (d_pure2 [46, 51] [] rfl rfl rfl (fun _ => Zag (Zbw (st1 N i.pa[m]) (rBil i.pa[m].t i.pa[m].f) (0) _ rfl rfl rfl mt178 kt51 za2 rfl rfl)) (fun _ => Zag (Zbw (mtouch (st1 N i.pa[m]) (rBil i.pa[m].t i.pa[m].f) (0)) (rBil i.pa[m].t i.pa[m].f) (0) _ rfl rfl rfl mt178 kt51 za2 (mget_touch _ _ _ _) rfl)) (Zah [7] [] rfl rfl (fun _ => Zag (Zai rfl fi145_2 rfl rfl rfl)) (ZaN [53] rfl rfl (fun _ => Zag (Zaj rfl rfl rfl on2 rfl)) ?_))))))));have g := (hsm (rBil i.pa[m].t i.pa[m].f)).2.1;refine Zah [52, 54] [] rfl rfl (fun _ => Zag (Zay rfl rfl (IntWalk.i64_in _ (by omega)) rfl)) (Zbi [46, 51] [2] [(56, _)] rfl rfl (fun _ => Za7 (st_mapE (st1 N i.pa[m]) (rBil i.pa[m].t i.pa[m].f) (0) rfl rfl rfl mt178 kt51 za2 rfl rfl)) (.inr ⟨56, _, rfl, rfl, rfl, rfl, rfl⟩) rfl rfl rfl rfl rfl ?_ (hCn := c2_wr rfl));refine Zah [56] [] rfl rfl (fun _ => Zag (Zbk rfl rfl rfl)) (dwc 12 rfl rfl rfl (dw1 13 rfl rfl (Zal.go (st_entS (st1 N i.pa[m]) (rBil i.pa[m].t i.pa[m].f) (0) (mget (st1 N i.pa[m]) (rBil i.pa[m].t i.pa[m].f) 0 + i.pa[m].n) rfl rfl rfl kt51 rfl rfl) (Zae ⟨rfl, ?_⟩))));refine dwe (Zaf ?_);refine ZaV [[], [], [1], [1, 2], [0, 1, 2, 3], [], [5], [0, 1, 2, 3, 4, 5, 6], [0, 1, 2, 3, 5, 6], [0, 1, 2, 3, 5, 6, 8], [0, 1, 2, 3, 4, 5, 6, 7, 8, 9]] mixed rfl (dws2 2 ([mapC rscD intD (mtouch (st2 (st1 N i.pa[m]) i.pa[m]) (rMul i.pa[m].f) 0)]) rfl (Zah [3] [] rfl rfl (fun _ => Zag (Zac rfl rfl)) (Zah [7] [] rfl rfl (fun _ => Zag (Zai rfl fi145_0 rfl rfl rfl)) (ZaN [59] rfl rfl (fun _ => Zag (Zaj rfl rfl rfl on9 rfl)) (Zah [60] [] rfl rfl (fun _ => Zag (Za0 zl51 pl51 rfl rfl rfl)) (d_pure2 [58, 61] [] rfl rfl rfl (fun _ => Zag (Zbw (st2 (st1 N i.pa[m]) i.pa[m]) (rMul i.pa[m].f) (0) _ rfl rfl rfl mt178 kt51 za2 rfl rfl)) (fun _ => Zag (Zbw (mtouch (st2 (st1 N i.pa[m]) i.pa[m]) (rMul i.pa[m].f) (0)) (rMul i.pa[m].f) (0) _ rfl rfl rfl mt178 kt51 za2 (mget_touch _ _ _ _) rfl)) (Zah [7] [] rfl rfl (fun _ => Zag (Zai rfl fi145_2 rfl rfl rfl)) (ZaN [63] rfl rfl (fun _ => Zag (Zaj rfl rfl rfl on2 rfl)) ?_))))))));have g := (hsm (rMul i.pa[m].f)).2.2.1;refine Zah [62, 64] [] rfl rfl (fun _ => Zag (st_sub rfl rfl (IntWalk.i64_in _ (by omega)) rfl)) (Zbi [58, 61] [2] [(66, _)] rfl rfl (fun _ => Za7 (st_mapE (st2 (st1 N i.pa[m]) i.pa[m]) (rMul i.pa[m].f) (0) rfl rfl rfl mt178 kt51 za2 rfl rfl)) (.inr ⟨66, _, rfl, rfl, rfl, rfl, rfl⟩) rfl rfl rfl rfl rfl ?_ (hCn := c2_wr rfl));refine Zah [66] [] rfl rfl (fun _ => Zag (Zbk rfl rfl rfl)) (dwc 10 rfl rfl rfl (dw1 11 rfl rfl (Zal.go (st_entS (st2 (st1 N i.pa[m]) i.pa[m]) (rMul i.pa[m].f) (0) (mget (st2 (st1 N i.pa[m]) i.pa[m]) (rMul i.pa[m].f) 0 - i.pa[m].n) rfl rfl rfl kt51 rfl rfl) (Zae ⟨rfl, ?_⟩))));refine dwe ?_;refine ZaV [[], [], [1], [1, 2], [0, 1, 2, 3], [], [5], [0, 1, 2, 3, 4, 5, 6], [0, 1, 2, 3, 5, 6], [0, 1, 2, 3, 5, 6, 8], [0, 1, 2, 3, 4, 5, 6, 7, 8, 9]] mixed rfl (dws2 2 ([mapC rscD intD (mtouch (st3 (st2 (st1 N i.pa[m]) i.pa[m]) i.pa[m]) (rMul i.pa[m].t) 0)]) rfl (Zah [3] [] rfl rfl (fun _ => Zag (Zac rfl rfl)) (Zah [7] [] rfl rfl (fun _ => Zag (Zai rfl fi145_1 rfl rfl rfl)) (ZaN [69] rfl rfl (fun _ => Zag (Zaj rfl rfl rfl on9 rfl)) (Zah [70] [] rfl rfl (fun _ => Zag (Za0 zl51 pl51 rfl rfl rfl)) (d_pure2 [68, 71] [] rfl rfl rfl (fun _ => Zag (Zbw (st3 (st2 (st1 N i.pa[m]) i.pa[m]) i.pa[m]) (rMul i.pa[m].t) (0) _ rfl rfl rfl mt178 kt51 za2 rfl rfl)) (fun _ => Zag (Zbw (mtouch (st3 (st2 (st1 N i.pa[m]) i.pa[m]) i.pa[m]) (rMul i.pa[m].t) (0)) (rMul i.pa[m].t) (0) _ rfl rfl rfl mt178 kt51 za2 (mget_touch _ _ _ _) rfl)) (Zah [7] [] rfl rfl (fun _ => Zag (Zai rfl fi145_2 rfl rfl rfl)) (ZaN [73] rfl rfl (fun _ => Zag (Zaj rfl rfl rfl on2 rfl)) ?_))))))));have g := (hsm (rMul i.pa[m].t)).2.2.2;refine Zah [72, 74] [] rfl rfl (fun _ => Zag (Zay rfl rfl (IntWalk.i64_in _ (by omega)) rfl)) (Zbi [68, 71] [2] [(76, _)] rfl rfl (fun _ => Za7 (st_mapE (st3 (st2 (st1 N i.pa[m]) i.pa[m]) i.pa[m]) (rMul i.pa[m].t) (0) rfl rfl rfl mt178 kt51 za2 rfl rfl)) (.inr ⟨76, _, rfl, rfl, rfl, rfl, rfl⟩) rfl rfl rfl rfl rfl ?_ (hCn := c2_wr rfl));refine Zah [76] [] rfl rfl (fun _ => Zag (Zbk rfl rfl rfl)) (dwc 10 rfl rfl rfl (dw1 11 rfl rfl (Zal.go (st_entS (st3 (st2 (st1 N i.pa[m]) i.pa[m]) i.pa[m]) (rMul i.pa[m].t) (0) (mget (st3 (st2 (st1 N i.pa[m]) i.pa[m]) i.pa[m]) (rMul i.pa[m].t) 0 + i.pa[m].n) rfl rfl rfl kt51 rfl rfl) (Zae ⟨rfl, ?_⟩))));refine dwe (Zab (Zaa.go (Zay rfl rfl (wrapS (m + 1) (by omega)) rfl) (Zaa.go (Zac rfl rfl) (Zae ?_))));exact ⟨(m + 1, _), ⟨by show m + 1 ≤ _; omega, by show _ = sumL (ctrP i.po ++ ctrY (i.pa.take (m + 1))); rw [ctrY_snoc hm1, ← List.append_assoc]; exact (st_all hN).2.2.2⟩, by show i.pa.length - (m + 1) < i.pa.length - m; omega, Zat hF [2] rfl (rfl) ⟨rfl, rfl, rfl, rfl, trivial⟩⟩
    · refine ZaI (Zaf (Zab (Zaa.go (Zac rfl rfl) (Zaa.go (Zad rfl rfl) (Zae (Zas ?_))))));exact ⟨_, [2], _, Zao rfl, rfl, rfl, rfl, by rw [hN, List.take_of_length_le (by have h := h31; omega)] <;> rfl⟩
end Go.Proofs.YtneihdahboilnaaGreat
