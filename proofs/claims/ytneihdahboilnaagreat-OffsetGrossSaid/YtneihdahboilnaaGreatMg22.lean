/- The kit's contract of slices.SortFunc at a row of pointers in a region of many blocks; the comparison reads the blocks. No program in sight. -/
import Derived.Test.YtneihdahboilnaaGreatMg21
import Derived.Shelf.SlSortCmp.Whole1
namespace Go.Proofs.YtneihdahboilnaaGreat
open Go.RowKit Go.Shelf
open Go.Sort (putRow Holds PermIn SortedIn SWO mapBlock onCells putCells)
variable {P : Program}
section
variable {ρr : Ren} {τ : Type}
theorem heap_putRow_other {α : Type} [Inhabited α] {enc : α → Value} {w : World} {b off m : Nat} {dk : Array α} {os : Array Obj} {b' : Nat} (hne : b' ≠ b) (hlt : b' < w.heap.size) : (sortWorld enc w b off m dk os).heap[b']? = w.heap[b']? := by
  unfold sortWorld;rw [Go.Sort.heap_grow_old _ _ (by rw [Go.Sort.size_putRow]; exact hlt)];show (w.heap.modify b _)[b']? = _;rw [Array.getElem?_modify,if_neg (Ne.symm hne)]
theorem size_sortW {α : Type} [Inhabited α] {enc : α → Value} {w : World} {b off m : Nat} {dk : Array α} {os : Array Obj} : w.heap.size ≤ (sortWorld enc w b off m dk os).heap.size := by
  unfold sortWorld Go.Sort.grow;rw [Array.size_append,Go.Sort.size_putRow];exact Nat.le_add_right _ _
theorem st_sortN (L : SlLaysF.n6 P ρr) {E : TypeId} {g g6 : FuncId} {fn : Func} (hfn : P.funcs[g]? = some fn) (hnm : (fn.name == "runtime.NumGoroutine") = false) {c : Code} (hbody : fn.body = some c)
    {bl : τ → Nat} {px : τ → List D} {tx : τ → TypeId} (cf : τ → τ → Int) (hO : SWO (ltOf cf)) (xs ys0 : List τ) (hsz : xs.length < 4611686018427387904) (hc : ∀ x ∈ xs, ∀ y ∈ xs,PCalls P g [.d (.ptr (.agg (px x))), .d (.ptr (.agg (px y)))] (.raw (.int .i64 (cf x y))))
    (hu : ∀ ys : List τ,ys.Perm xs → ys.Pairwise (fun a b => ¬ cf b a < 0) → ys = ys0)
    {F : Fr} {s : AS} {d : Nat} {x y : Operand} {ty : TypeId} {pos : String} {aft : Array Edge} {gd : Option (Nat × Bool)} {at_ : Array TypeId} {f b cap n : Nat} {M : MF} {fa : AV} {row : List D} {hp' : Hp}
    (hg : ρr.f 6 = g6) (hM : hfam s.hp f = some [.multi M]) (hpx : ∀ x ∈ xs,M (bl x) = some (.cells (tx x) (px x))) (h1x : ∀ x ∈ xs, ∀ c ∈ px x,c.one = true) (hx : s.ev x = some (.d (.raw (sV b n cap)))) (hy : s.ev y = some fa) (hfa : ∀ w O ρ v,RepA w O ρ fa v → v = .func (.func g) #[] #[]) (hb : M b = some (.row E 1 cap row)) (hrow : row = xs.map fun x => pD (bl x) 0) (hn : n = xs.length) (hxs : xs ≠ []) (hh : hmul? s.hp f (Za2 M b (.row E 1 cap (ys0.map fun x => pD (bl x) 0))) = some hp') (hd : Nat.blt d s.n = true) :
    Zaj P F ⟨some d, .call { callee := .value (.func g6),args := #[x,y],argTypes := at_ },ty,pos,aft,gd⟩ s ⟨s.n,(d, .d (.tup [])) :: s.env,hp'⟩ (fun _ _ => true) := by
  subst hg hrow hn;intro ρ act w hs
  obtain ⟨fn6,hf1,hf2,hf3⟩ : ∃ fn,P.funcs[ρr.f 6]? = some fn ∧ (fn.name == "runtime.NumGoroutine") = false ∧ fn.body.isSome = true := by
    obtain ⟨nm,hn,hf⟩ := L.f6;exact ⟨_,hf,hn,rfl⟩
  unfold Oper.wp;rw [show (#[x,y] : Array Operand) = [x,y].toArray from rfl,run_call hf1 hf2 hf3,Oper.upon_enter]
  suffices key : Calls P (ρr.f 6) ([x,y].map act.eval).toArray w fun e w' => e = .returned (.tuple #[]) ∧ SR F ⟨s.n,s.env,hp'⟩ ρ act w' by
    refine key.mono fun e w' ⟨e1,hsr⟩ => ?_;subst e1;exact ⟨ρ,hsr.put (Zbb hd) (.d (.tup rfl fun i c v hc => by cases hc)),fun _ _ _ => rfl⟩
  have r0 := hs.raw hx;have r1 := hfa _ _ _ _ (hs.ev hy);have h3 := hs.heap
  have hO0 : OwnB ρ s.hp b := ⟨f,b,_,by rw [Za4 hM,hb]; rfl,by rw [(hs.rowN hM hb).1]; rfl⟩
  obtain ⟨hρ,us,q1,q2,q3⟩ := hs.rowN hM hb;show Calls P (ρr.f 6) #[act.eval x,act.eval y] w _;rw [r1,r0];have hn : 0 < xs.length := List.length_pos_iff.2 hxs
  have hus : us = xs.map fun x => pV (bl x) 0 := by
    apply List.ext_getElem?
    intro i;rw [List.getElem?_map]
    by_cases hi : i < xs.length
    · rw [List.getElem?_eq_getElem hi];obtain ⟨u,h1,h2,h4⟩ := q2.2.2 i (pD (bl xs[i]) 0) (by rw [List.getElem?_map,List.getElem?_eq_getElem hi]; rfl) 0 (pD (bl xs[i]) 0) rfl;rw [Nat.mul_one,Nat.add_zero] at h1;rw [h1]
      cases h4 with
      | raw _ => rfl
    · have : us.length = xs.length := by have := q2.1; rwa [List.length_map,Nat.mul_one] at this
      rw [List.getElem?_eq_none (by omega),List.getElem?_eq_none (by omega)]; rfl
  obtain ⟨cur,p1,p2,p3,p3',p4⟩ : ∃ cur,w.heap[b]? = some (.cells cur E (0,0)) ∧ cur.size = cap ∧ xs.length ≤ cap ∧ cap ≤ maxLen ∧ cur.toList.take xs.length = us := by
    rcases q1.2 with ⟨_,h⟩ | ⟨b',cap',cur,e1,_,e2,e3,e4,e5,e6⟩
    · rw [List.length_map] at h; omega
    · rw [List.length_map] at e1;injection e1 with e1 e7 e8
      injection e1 with e1
      injection e1 with e1
      subst e1 e8;rw [List.length_map] at e3 e6;exact ⟨cur,e2,by omega,e3,e4,by rwa [Nat.mul_one] at e6⟩
  rw [List.length_map] at *;have hlt : b < w.heap.size := (Array.getElem?_eq_some_iff.1 p1).1;have hOb : F.O ρ s.hp b := .inr hO0;have hOl : ∀ b',F.O ρ s.hp b' → b' < w.heap.size := fun b' h => h3.ltO h
  let x0 : τ := xs[0]
  let ix : Nat → Nat := fun i => if i < xs.length then i else 0
  let el : Nat → τ := fun i => (xs[ix i]?).getD x0
  have hel : ∀ i,el i ∈ xs := fun i => by
    have hix : ix i < xs.length := by show (if _ then _ else _) < _; split <;> omega
    show (xs[ix i]?).getD x0 ∈ xs;rw [List.getElem?_eq_getElem hix]; exact List.getElem_mem hix
  have heli : ∀ i (hi : i < xs.length),el i = xs[i] := fun i hi => by
    show (xs[ix i]?).getD x0 = _;rw [show ix i = i from if_pos hi,List.getElem?_eq_getElem hi]; rfl
  let enc : Nat → Value := fun i => pV (bl (el i)) 0
  let cf' : Nat → Nat → Int := fun i j => cf (el i) (el j)
  have hO' : SWO (ltOf cf') := ⟨fun x => hO.irrefl (el x),fun x y z => hO.trans (el x) (el y) (el z),fun x y z => hO.ntrans (el x) (el y) (el z)⟩
  have henc1 : OneCell enc := fun _ => rfl;have hd0 : ∀ i,i < xs.length → (Array.range xs.length)[i]! = i := fun i hi => by rw [getElem!_pos _ i (by simpa using hi)]; simp
  have hcu : ∀ i (hi : i < xs.length),cur[i]? = some (pV (bl xs[i]) 0) := fun i hi => by
    have : us[i]? = cur.toList[i]? := by rw [← p4,List.getElem?_take_of_lt hi]
    rw [hus,List.getElem?_map,List.getElem?_eq_getElem hi] at this;rw [← Array.getElem?_toList]; exact this.symm
  have hH : Holds enc w b 0 (Array.range xs.length) := by
    intro j hj;simp only [Array.size_range] at hj;rw [hd0 _ hj];refine ⟨?_, ?_⟩
    · simp only [World.cell?,p1,Nat.zero_add];rw [hcu j hj];show _ = some (pV (bl (el j)) 0);rw [heli j hj]; rfl
    · simp only [World.frozen?,p1]
      simp
  have hcmp : CmpLays1 P g #[] enc cf' b 0 (Array.range xs.length).size w := by
    intro m os dk _ x y;have hWs : w.heap.size ≤ (sortWorld enc w b 0 m dk os).heap.size := size_sortW
    let O' : Nat → Prop := fun b' => F.O ρ s.hp b' ∧ b' ≠ bl (el x) ∧ b' ≠ bl (el y)
    have hne : ∀ i,bl (el i) ≠ b := fun i e => by
      have := hpx _ (hel i);rw [e,hb] at this; cases this
    have hptr : ∀ i,i = x ∨ i = y → RepD (sortWorld enc w b 0 m dk os) O' (.ptr (.agg (px (el i)))) (pV (bl (el i)) 0) := fun i hi => by
      obtain ⟨_,vs,c1,c2,c3,c4⟩ := hs.cellsN hM (hpx _ (hel i));have hl : bl (el i) < w.heap.size := (Array.getElem?_eq_some_iff.1 c1).1
      have hOn : ¬ O' (bl (el i)) := fun h => by
        rcases hi with e | e
        · exact h.2.1 (by rw [e])
        · exact h.2.2 (by rw [e])
      show RepD _ _ (.ptr (.agg (px (el i)))) (.pointer (some ⟨bl (el i),0,none⟩));refine RepD.ptr (x := .agg (px (el i))) (fun j => vs.getD j undef) (Nat.lt_of_lt_of_le hl hWs) hOn (h1x _ (hel i)) (fun j c hj => ?_) fun j c hj => ?_
      · have hj' : j < vs.length := by rw [c2]; exact (List.getElem?_eq_some_iff.1 hj).1
        simp only [World.cell?,heap_putRow_other (hne i) hl,c1,Nat.zero_add]
        simp [hj']
      · have hj' : j < vs.length := by rw [c2]; exact (List.getElem?_eq_some_iff.1 hj).1
        have hv : vs[j]? = some vs[j] := List.getElem?_eq_getElem hj';have : vs.getD j undef = vs[j] := by rw [List.getD_eq_getElem?_getD,hv]; rfl
        rw [this];exact (c3 j c _ hj hv).mono hWs (fun b' hl hno => heap_putRow_other (fun e => hno (e ▸ hOb)) hl) (fun _ _ h => h.1)
    refine (pure_at (hc (el x) (hel x) (el y) (hel y)) (w := sortWorld enc w b 0 m dk os) (O := O') (fun b' h => Nat.lt_of_lt_of_le (hOl b' h.1) hWs) (vs := [pV (bl (el x)) 0,pV (bl (el y)) 0]) rfl (fun i a v ha hv => ?_)).mono fun e w' ⟨v,e1,e2,e3,e4,e5⟩ => ⟨?_,grown_of e3 e4 e5⟩
    · match i,ha,hv with
      | 0,ha,hv => injection ha with ha; injection hv with hv; subst ha hv; exact .d (hptr x (.inl rfl))
      | 1,ha,hv => injection ha with ha; injection hv with hv; subst ha hv; exact .d (hptr y (.inr rfl))
    · cases e2 with
      | raw _ => exact e1
  have eg : ∀ args w,(callFunc g args).run P w = .ok (.enter g args) w := enters_of hfn hnm hbody;have key := Any.slices_SortFunc L enc henc1 cf' hO' g #[] b 0 cap (Array.range xs.length) w eg hcmp hH hlt (by simpa using hsz);rw [Array.size_range] at key;refine key.mono fun e w' ⟨e1,d',n,os,hp,hsort,hw⟩ => ?_;subst e1 hw;obtain ⟨s1,_,s3⟩ := hp;rw [Array.size_range] at s1
  have hperm : d'.toList.Perm (List.range xs.length) := by
    have e1 : d'.extract 0 xs.length = d' := by rw [← s1]; exact Array.extract_size
    have e2 : (Array.range xs.length).extract 0 xs.length = Array.range xs.length := by
      conv => lhs; arg 3; rw [← Array.size_range (n := xs.length)]
      exact Array.extract_size
    rw [e1,e2] at s3
    simpa using s3
  refine ⟨rfl, ?_⟩
  have hys : d'.toList.map el = ys0 := by
    apply hu
    · refine (hperm.map el).trans (List.Perm.of_eq ?_)
      apply List.ext_getElem (by simp)
      intro i h5 h6;simp only [List.getElem_map,List.getElem_range];exact heli i h6
    · rw [List.pairwise_iff_getElem];intro i j hi hj hij;simp only [List.length_map,Array.length_toList] at hi hj;have := hsort i j (Nat.zero_le _) hij (by omega);rw [getElem!_pos _ j hj,getElem!_pos _ i hi] at this;simp only [ltOf,decide_eq_false_iff_not] at this
      simpa using this
  have hlen' : ys0.length = xs.length := by rw [← hys]; simp [s1]
  -- the world: first what lies in the row, then the new blocks
  have hheap : (sortWorld enc w b 0 n d' os).heap[b]? = some (.cells (putCells enc 0 d' cur) E (0,0)) := by
    unfold sortWorld;rw [Go.Sort.heap_grow_old _ _ (by rw [Go.Sort.size_putRow]; exact hlt)];show (w.heap.modify b _)[b]? = _;rw [Array.getElem?_modify,if_pos rfl,p1]; rfl
  refine hs.writeG f b (.nr b E 1 cap (xs.map fun x => pD (bl x) 0)) (.nr b E 1 cap (ys0.map fun x => pD (bl x) 0)) (by rw [Za4 hM,hb]; rfl) (fun g i => ?_) rfl rfl rfl size_sortW (Nat.le_add_right _ _) (fun b' hl hno => heap_putRow_other (fun e => hno (by rw [e,hρ]; rfl)) hl) (fun _ _ e => by cases e) fun hrep => ?_
  · rw [hmul?_spec hh]
    by_cases e : g = f
    · subst e;rw [if_pos rfl,Za4 hM]
      by_cases e2 : i = b
      · subst e2; rw [if_pos ⟨rfl,rfl⟩,Zbt]; rfl
      · rw [if_neg (fun h => e2 h.2),ZbD e2]
    · rw [if_neg e,if_neg (fun h => e h.1)]
  have hcs : (putCells enc 0 d' cur).size = cap := by simp only [putCells,Array.size_mapIdx]; omega
  have hrow : (putCells enc 0 d' cur).toList.take ys0.length = ys0.map fun x => pV (bl x) 0 := by
    apply List.ext_getElem?
    intro i
    by_cases hi : i < xs.length
    · rw [List.getElem?_take_of_lt (by omega),List.getElem?_map, ← hys,List.getElem?_map,Array.getElem?_toList,Array.getElem?_toList,Array.getElem?_eq_getElem (by omega),Array.getElem?_eq_getElem (by omega)];simp only [putCells,Array.getElem_mapIdx,Option.map_some];rw [if_pos ⟨Nat.zero_le _,by omega⟩];simp only [Nat.sub_zero];rw [getElem!_pos _ i (by omega)]
    · rw [List.getElem?_eq_none (by rw [List.length_take]; omega),List.getElem?_eq_none (by rw [List.length_map]; omega)]
  refine ⟨hρ,ys0.map fun x => pV (bl x) 0,⟨by simp, .inr ⟨b,cap,_,by simp only [List.length_map],Nat.zero_le _,hheap,by rw [List.length_map,hlen']; exact p3,p3',by rw [hcs]; omega,by rw [List.length_map,Nat.mul_one,hrow]⟩⟩,⟨by simp,fun x hx2 => ?_,fun i x hx2 j c hc2 => ?_⟩,fun x hx2 c hc2 => ?_⟩
  · obtain ⟨y,_,rfl⟩ := List.mem_map.1 hx2; rfl
  · rw [List.getElem?_map] at hx2
    cases hdi : ys0[i]? with
    | none => rw [hdi] at hx2; cases hx2
    | some q =>
      rw [hdi] at hx2;injection hx2 with hx2; subst hx2
      match j,hc2 with
      | 0,hc2 =>
        injection hc2 with hc2; subst hc2
        exact ⟨pV (bl q) 0,by rw [Nat.mul_one,Nat.add_zero,List.getElem?_map,hdi]; rfl,rfl, .raw rfl⟩
  · obtain ⟨y,_,rfl⟩ := List.mem_map.1 hx2
    cases hc2 with
    | head => rfl
    | tail _ h => cases h
theorem st_sortN0 (L : SlLaysF.n6 P ρr) {g6 : FuncId} {F : Fr} {s : AS} {d : Nat} {x y : Operand} {ty : TypeId} {pos : String} {aft : Array Edge} {gd : Option (Nat × Bool)} {at_ : Array TypeId} {fa : AV} 
    (hg : ρr.f 6 = g6) (hx : s.ev x = some (.d (.raw (.slice none 0 0)))) (hy : s.ev y = some fa) (hd : Nat.blt d s.n = true) :
    Zaj P F ⟨some d, .call { callee := .value (.func g6),args := #[x,y],argTypes := at_ },ty,pos,aft,gd⟩ s ⟨s.n,(d, .d (.tup [])) :: s.env,s.hp⟩ (fun _ _ => true) := by
  subst hg;intro ρ act w hs
  obtain ⟨fn6,hf1,hf2,hf3⟩ : ∃ fn,P.funcs[ρr.f 6]? = some fn ∧ (fn.name == "runtime.NumGoroutine") = false ∧ fn.body.isSome = true := by
    obtain ⟨nm,hn,hf⟩ := L.f6;exact ⟨_,hf,hn,rfl⟩
  unfold Oper.wp;rw [show (#[x,y] : Array Operand) = [x,y].toArray from rfl,run_call hf1 hf2 hf3,Oper.upon_enter];have r0 := hs.raw hx;show Calls P (ρr.f 6) #[act.eval x,act.eval y] w _;rw [r0];refine (AnyF.slices_SortFunc_none { L with } none 0 _ w).mono fun e w' ⟨e1,e2⟩ => ?_;subst e1 e2;exact ⟨ρ,hs.put (Zbb hd) (.d (.tup rfl fun i c v hc => by cases hc)),fun _ _ _ => rfl⟩
end
end Go.Proofs.YtneihdahboilnaaGreat
/- Layer 30: the network grows: a pool, a node; the pools are sorted. -/
namespace Go.Proofs.YtneihdahboilnaaGreat
open Go.RowKit Go.Shelf
set_option maxRecDepth 100000 in
theorem cmpPo_p (x y : Po) : PCalls Tryz.prog 74 [.d (.ptr (.agg (poC x))), .d (.ptr (.agg (poC y)))] (intD (cmpR x.r y.r)) := by
  refine ZaB Tryz.func74 rfl rfl Tryz.ntmps74 rfl rfl rfl fun F hF => (Zad ?_);refine Zab (goAs rfl rfl (Zac (Zad (ZaT [[],[0],[0,1],[0,1,2],[],[4],[4,5],[4,5,6],[0,1,2,3,4,5,6,7],[0,1,2,3,4,5,6,7,8]] mixed rfl (dws (Zaf [0] [] rfl rfl (fun _ => Zae (Zar rfl rfl)) (Zaf [5] [] rfl rfl (fun _ => Zae (ZbM rfl rfl)) (Zaf [6] [] rfl rfl (fun _ => Zae (ZaM rfl fi121_0 rfl rfl rfl)) ?_))))))));refine Zaf [7] [] rfl rfl (fun _ => Zae (ZaC rfl rfl rw51 rfl)) (Zaf [1] [] rfl rfl (fun _ => Zae (Zar rfl rfl)) (Zaf [9] [] rfl rfl (fun _ => Zae (ZbM rfl rfl)) (Zaf [10] [] rfl rfl (fun _ => Zae (ZaM rfl fi121_0 rfl rfl rfl)) (Zaf [11] [] rfl rfl (fun _ => Zae (ZaC rfl rfl rw51 rfl)) (dwc 8 rfl rfl rfl (dw1 9 rfl rfl (Zaa.go (Zau (compare_p x.r y.r) rfl rfl) (Zac ⟨rfl, ?_⟩))))))));refine dw1 10 rfl rfl (goAs rfl rfl (Zac ⟨rfl, ?_⟩));refine dwe (Zao ?_);exact ⟨_,[],[],Zak rfl,rfl,rfl,rfl,rfl⟩
theorem mput_some {M : MF} {bn b' : Nat} {m m' : MObj} (hb : M bn = none) (h : M b' = some m) : Za2 M bn m' b' = some m := by
  rw [ZbD]
  · exact h
  · rintro rfl; rw [hb] at h; cases h
theorem rowAt_fresh {M : MF} {bn : Nat} {m' : MObj} (hb : M bn = none) {h : Hd} {t : TypeId} {k : Nat} {xs : List D} (hr : rowAt M h t k xs) : rowAt (Za2 M bn m') h t k xs := by
  match h,hr with
  | none,hr => exact hr
  | some (b',c),hr => exact ⟨hr.1,mput_some hb hr.2⟩
theorem Rep.fresh {wb mv : Nat} {nb pb : Nat → Nat} {N : Net} {M : MF} (h : Rep wb mv nb pb N M) {bn : Nat} {m : MObj} (hb : M bn = none) : Rep wb mv nb pb N (Za2 M bn m) :=
  ⟨fun i x hx => mput_some hb (h.n i x hx),fun j y hy => mput_some hb (h.p j y hy),⟨fun r => rowAt_fresh hb (h.rs.1 r),h.rs.2⟩,mput_some hb h.w,h.ni,h.pi,h.e,h.q⟩
def ext (f : Nat → Nat) (k b : Nat) : Nat → Nat := fun j => if j = k then b else f j
theorem ext_lt {f : Nat → Nat} {k b j : Nat} (h : j < k) : ext f k b j = f j := if_neg (by omega)
theorem ext_at {f : Nat → Nat} {k b : Nat} : ext f k b k = b := if_pos rfl
theorem range_ext {f : Nat → Nat} {k b : Nat} : (List.range (k + 1)).map (fun j => ptrD (ext f k b j)) = (List.range k).map (fun j => ptrD (f j)) ++ [ptrD b] := by
  rw [List.range_succ,List.map_append,List.map_singleton,ext_at]
  congr 1
  exact List.map_congr_left fun j hj => by rw [ext_lt (List.mem_range.1 hj)]
abbrev nwM (nh : Hd) (a : Nat) (mh : Hd) (c mv : Nat) : MObj := .cells 108 [hdr nh a,hdr mh c,rawD (.map (some mv))]
theorem Rep.keepM {wb mv : Nat} {nb pb : Nat → Nat} {N : Net} {M : MF} (h : Rep wb mv nb pb N M) {b : Nat} (hb : mdelH M N.mh b = none) {v : MObj} {b' : Nat} {t : TypeId} {cs : List D} (hm : M b' = some (.cells t cs)) : Za2 (mdelH M N.mh) b v b' = some (.cells t cs) :=
  Go.Proofs.YtneihdahboilnaaGreat.keepM hb hm fun c hc => by have := h.rs.blk (r := .m) hc; rw [hm] at this; cases this
theorem getD_snoc {α : Type} (l : List α) (y d : α) (j : Nat) : (l ++ [y]).getD j d = if j = l.length then y else l.getD j d := by
  rw [List.getD_eq_getElem?_getD,List.getD_eq_getElem?_getD,List.getElem?_append]
  split
  · rw [if_neg (by omega)]
  · split
    · rename_i e; subst e; simp
    · rw [List.getElem?_eq_none (by simp; omega),List.getElem?_eq_none (by omega)]
theorem getD_mem {α : Type} {l : List α} {d : α} (i : Nat) : l.getD i d ∈ l ∨ l.getD i d = d := by
  by_cases h : i < l.length
  · left; rw [ZaH d h]; exact List.getElem_mem h
  · right; rw [List.getD_eq_getElem?_getD,List.getElem?_eq_none (by omega)]; rfl
theorem snoc_get {α : Type} {l : List α} {y z : α} {i : Nat} (h : (l ++ [y])[i]? = some z) : (i < l.length ∧ l[i]? = some z) ∨ (i = l.length ∧ z = y) := by
  rw [List.getElem?_append] at h
  split at h
  · rename_i hi; exact .inl ⟨hi,h⟩
  · rename_i hi
    right
    have : i - l.length = 0 := by
      have := (List.getElem?_eq_some_iff.1 h).1
      simp at this; omega
    rw [this] at h;exact ⟨by omega,(Option.some.inj h).symm⟩
theorem Rep.addM {wb mv : Nat} {nb pb : Nat → Nat} {N : Net} {M : MF} (h : Rep wb mv nb pb N M) {y : Po} (hy : y.q = []) (hyh : y.qh = none) {bn : Nat} (hM : M bn = some (poM y)) (hbn : ∀ j,j < N.po.length → pb j ≠ bn) {b cap : Nat} (hb : mdelH M N.mh b = none) (hl : N.po.length + 1 ≤ cap) :
    Rep wb mv nb (ext pb N.po.length bn) { N with po := N.po ++ [y],mh := some (b,cap) } (Za2 (Za2 (mdelH M N.mh) b (.row ppT 1 cap ((List.range N.po.length).map (fun j => ptrD (pb j)) ++ [ptrD bn]))) wb (nwM N.nh N.nd.length (some (b,cap)) (N.po.length + 1) mv)) := by
  have hef : ∀ i,((N.nd.getD i nd0).ef.map (efD (ext pb N.po.length bn))) = (N.nd.getD i nd0).ef.map (efD pb) := fun i => List.map_congr_left fun e he => by
    rcases getD_mem (l := N.nd) (d := nd0) i with hm | hm
    · show D.agg [pD (ext pb N.po.length bn e.1) 0,_] = _;rw [ext_lt ((h.e _ hm).1 e he)]
    · rw [hm] at he; cases he
  have hpl : ∀ i,((N.nd.getD i nd0).pl.map (plD (ext pb N.po.length bn))) = (N.nd.getD i nd0).pl.map (plD pb) := fun i => List.map_congr_left fun e he => by
    rcases getD_mem (l := N.nd) (d := nd0) i with hm | hm
    · show D.agg [pD (ext pb N.po.length bn e.1) 0,_] = _;rw [ext_lt ((h.e _ hm).2 e he)]
    · rw [hm] at he; cases he
  have hR : ∀ r,r ≠ RI.m → rowOf nb (ext pb N.po.length bn) { N with po := N.po ++ [y],mh := some (b,cap) } r = rowOf nb pb N r := fun r hr => by
    cases r with
    | e i => show (⟨_,_,_,(N.nd.getD i nd0).ef.map _⟩ : RowM) = _; rw [hef]; rfl
    | p i => show (⟨_,_,_,(N.nd.getD i nd0).pl.map _⟩ : RowM) = _; rw [hpl]; rfl
    | n => rfl
    | m => exact absurd rfl hr
    | q j =>
      show (⟨((N.po ++ [y]).getD j po0).qh,_,_,((N.po ++ [y]).getD j po0).q.map _⟩ : RowM) = ⟨(N.po.getD j po0).qh,_,_,(N.po.getD j po0).q.map _⟩
      rw [getD_snoc]
      split
      · rename_i e
        rw [hy,hyh,List.getD_eq_getElem?_getD,List.getElem?_eq_none (by omega)]; rfl
      · rfl
  have hup := h.rs.upd (R' := rowOf nb (ext pb N.po.length bn) { N with po := N.po ++ [y],mh := some (b,cap) }) .m hR (b := b) (cap := cap) hb rfl (by
    show ((List.range (N.po ++ [y]).length).map _).length ≤ cap
    simp; exact hl)
  have hrow : (rowOf nb (ext pb N.po.length bn) { N with po := N.po ++ [y],mh := some (b,cap) } .m).xs = (List.range N.po.length).map (fun j => ptrD (pb j)) ++ [ptrD bn] := by
    show (List.range (N.po ++ [y]).length).map _ = _;rw [List.length_append,List.length_singleton,range_ext]
  rw [hrow] at hup
  have hk : ∀ (b' : Nat) (t : TypeId) (cs : List D),t ≠ 108 → M b' = some (.cells t cs) → Za2 (Za2 (mdelH M N.mh) b (.row ppT 1 cap ((List.range N.po.length).map (fun j => ptrD (pb j)) ++ [ptrD bn]))) wb (nwM N.nh N.nd.length (some (b,cap)) (N.po.length + 1) mv) b' = some (.cells t cs) := fun b' t cs ht hm => by
    rw [ZbD]
    · exact h.keepM hb hm
    · rintro rfl; rw [h.w] at hm; injection hm with hm; injection hm with hm; exact ht hm.symm
  refine ⟨fun i x hx => hk _ _ _ (by decide) (h.n i x hx),fun i z hz => ?_,hup.cells (h.keepM hb h.w), ?_,h.ni,fun i k hi hk e => ?_,fun x hx => ?_,fun z hz => ?_⟩
  · rcases snoc_get hz with ⟨h1,h2⟩ | ⟨h1,h2⟩
    · rw [ext_lt h1]; exact hk _ _ _ (by decide) (h.p i z h2)
    · subst h1 h2; rw [ext_at]; exact hk _ _ _ (by decide) hM
  · rw [Zbt];show _ = some (MObj.cells _ [_,hdr _ (N.po ++ [y]).length,_]);rw [List.length_append]; rfl
  · have hi' : i < N.po.length + 1 := by simpa using hi
    have hk' : k < N.po.length + 1 := by simpa using hk
    by_cases e1 : i = N.po.length <;> by_cases e2 : k = N.po.length
    · omega
    · subst e1;rw [ext_at,ext_lt (by omega)] at e;exact absurd e.symm (hbn k (by omega))
    · subst e2;rw [ext_at,ext_lt (by omega)] at e;exact absurd e (hbn i (by omega))
    · rw [ext_lt (by omega),ext_lt (by omega)] at e;exact h.pi i k (by omega) (by omega) e
  · have := h.e x hx;refine ⟨fun e he => ?_,fun e he => ?_⟩
    · have := this.1 e he; simp; omega
    · have := this.2 e he; simp; omega
  · rcases List.mem_append.1 hz with hz | hz
    · exact h.q z hz
    · rw [List.mem_singleton.1 hz,hy]; intro i hi; cases hi
theorem Rep.perm {wb mv : Nat} {nb pb : Nat → Nat} {N : Net} {M : MF} (h : Rep wb mv nb pb N M) (hn : N.nd = []) (hqn : ∀ y ∈ N.po,y.q = [] ∧ y.qh = none) {ys : List Nat} (hp : ys.Perm (List.range N.po.length)) {b cap : Nat} (hm : N.mh = some (b,cap)) :
    Rep wb mv nb (fun k => pb (ys.getD k 0)) { N with po := ys.map fun i => N.po.getD i po0 } (Za2 M b (.row ppT 1 cap (ys.map fun j => ptrD (pb j)))) := by
  have hyl : ys.length = N.po.length := by rw [hp.length_eq,List.length_range]
  have hys : ∀ k,k < ys.length → ys.getD k 0 < N.po.length := fun k hk => by
    rw [ZaH 0 hk];exact List.mem_range.1 (hp.mem_iff.1 (List.getElem_mem hk))
  have hrow := h.rs.blk (r := .m) hm
  have hrl := (h.rs.1 .m)
  rw [show (rowOf nb pb N .m).h = some (b,cap) from hm] at hrl
  have hlen : N.po.length ≤ cap := by
    have := hrl.1;have e : ((List.range N.po.length).map fun j => ptrD (pb j)).length = N.po.length := by simp
    exact e ▸ this
  have hk : ∀ (b' : Nat) (t : TypeId) (cs : List D),M b' = some (.cells t cs) → Za2 M b (.row ppT 1 cap (ys.map fun j => ptrD (pb j))) b' = some (.cells t cs) := fun b' t cs hm' => by
    rw [ZbD]
    · exact hm'
    · rintro rfl; rw [hrow] at hm'; cases hm'
  have hq0 : ∀ (l : List Po),(∀ y ∈ l,y.q = [] ∧ y.qh = none) → ∀ j,(l.getD j po0).q = [] ∧ (l.getD j po0).qh = none := fun l hl j => by
    rcases getD_mem (l := l) (d := po0) j with hm | hm
    · exact hl _ hm
    · rw [hm]; exact ⟨rfl,rfl⟩
  have hqn' : ∀ y ∈ ys.map fun i => N.po.getD i po0,y.q = [] ∧ y.qh = none := fun y hy => by
    obtain ⟨i,_,rfl⟩ := List.mem_map.1 hy;exact hq0 _ hqn i
  refine ⟨fun i x hx => ?_,fun j y hy => ?_,⟨fun r => ?_,fun r r' b1 c c' h1 h2 => ?_⟩, ?_,h.ni,fun i k hi hk' e => ?_,fun x hx => ?_,fun y hy => ?_⟩
  · have : N.nd[i]? = some x := hx;rw [hn] at this; simp at this
  · have hy' : (ys.map fun i => N.po.getD i po0)[j]? = some y := hy;rw [List.getElem?_map] at hy'
    cases hj : ys[j]? with
    | none => rw [hj] at hy'; cases hy'
    | some i =>
      rw [hj] at hy';have e : y = N.po.getD i po0 := (Option.some.inj hy').symm;have hjl := (List.getElem?_eq_some_iff.1 hj).1;have hi := hys j hjl;rw [getD_of hj] at hi;show Za2 M b _ (pb (ys.getD j 0)) = _;rw [getD_of hj,e,ZaH po0 hi];exact hk _ _ _ (h.p i _ (List.getElem?_eq_getElem hi))
  · cases r with
    | e i => 
      have : N.nd.getD i nd0 = nd0 := by rw [hn]; rfl
      show rowAt _ (N.nd.getD i nd0).eh _ _ ((N.nd.getD i nd0).ef.map _);rw [this]; rfl
    | p i => 
      have : N.nd.getD i nd0 = nd0 := by rw [hn]; rfl
      show rowAt _ (N.nd.getD i nd0).ph _ _ ((N.nd.getD i nd0).pl.map _);rw [this]; rfl
    | q j =>
      show rowAt _ ((ys.map fun i => N.po.getD i po0).getD j po0).qh _ _ (((ys.map fun i => N.po.getD i po0).getD j po0).q.map _);obtain ⟨e1,e2⟩ := hq0 _ hqn' j;rw [e1,e2]; rfl
    | n =>
      have hnr := h.rs.1 .n;show rowAt _ N.nh _ _ ((List.range N.nd.length).map _)
      cases hh : N.nh with
      | none => show _ = []; rw [hn]; rfl
      | some p =>
        obtain ⟨b',c'⟩ := p;rw [show (rowOf nb pb N .n).h = some (b',c') from hh] at hnr;refine ⟨by have := hnr.1; exact this, ?_⟩;rw [ZbD]
        · exact hnr.2
        · rintro rfl;exact absurd (h.rs.2 .n .m b' c' cap hh hm) (by intro e; cases e)
    | m =>
      show rowAt _ N.mh _ _ ((List.range (ys.map fun i => N.po.getD i po0).length).map fun k => ptrD (pb (ys.getD k 0)))
      have e : ((List.range (ys.map fun i => N.po.getD i po0).length).map fun k => ptrD (pb (ys.getD k 0))) = ys.map fun j => ptrD (pb j) := by
        apply List.ext_getElem (by simp)
        intro k h1 h2;simp only [List.getElem_map,List.getElem_range];rw [ZaH 0 (by simpa using h2)]
      rw [e,hm];exact ⟨by rw [List.length_map,hyl]; exact hlen,Zbt _ _ _⟩
  · have hcase : ∀ r b1 c,(rowOf nb (fun k => pb (ys.getD k 0)) { N with po := ys.map fun i => N.po.getD i po0 } r).h = some (b1,c) → (rowOf nb pb N r).h = some (b1,c) := fun r b1 c h1 => by
      cases r with
      | e i => exact h1
      | p i => exact h1
      | n => exact h1
      | m => exact h1
      | q j =>
        have h1' : ((ys.map fun i => N.po.getD i po0).getD j po0).qh = some (b1,c) := h1;rw [(hq0 _ hqn' j).2] at h1'; cases h1'
    exact h.rs.2 r r' b1 c c' (hcase _ _ _ h1) (hcase _ _ _ h2)
  · have := hk _ _ _ h.w;show _ = some (MObj.cells _ [_,hdr N.mh (ys.map fun i => N.po.getD i po0).length,_]);rw [List.length_map,hyl]; exact this
  · have hi' : i < ys.length := by simpa using hi
    have hk2 : k < ys.length := by simpa using hk'
    have := h.pi _ _ (hys i hi') (hys k hk2) e;rw [ZaH 0 hi',ZaH 0 hk2] at this;have hnd : ys.Nodup := hp.nodup_iff.2 List.nodup_range;exact (List.getElem_inj hnd).1 this
  · have : x ∈ N.nd := hx;rw [hn] at this; cases this
  · intro i hi;rw [(hqn' y hy).1] at hi; cases hi
end Go.Proofs.YtneihdahboilnaaGreat
/- Layer 30: the network of a problem, in closed form. Plain laws. -/
namespace Go.Proofs.YtneihdahboilnaaGreat
open Go.RowKit
theorem mput_new {α β : Type} [DecidableEq α] {m : List (α × β)} {a : α} {b : β} (h : a ∉ m.map Prod.fst) : mput m a b = m ++ [(a,b)] := by
  induction m with
  | nil => rfl
  | cons p r ih =>
    obtain ⟨k,b'⟩ := p;simp only [List.map_cons,List.mem_cons,not_or] at h;simp only [mput,List.cons_append];rw [if_neg h.1,ih h.2]
theorem mget_not {α β : Type} [DecidableEq α] {m : List (α × β)} {a : α} {z : β} (h : a ∉ m.map Prod.fst) : mget m a z = z := by
  induction m with
  | nil => rfl
  | cons p r ih =>
    obtain ⟨k,b'⟩ := p;simp only [List.map_cons,List.mem_cons,not_or] at h;simp only [mget];rw [if_neg h.1,ih h.2]
theorem mget_snoc {α β : Type} [DecidableEq α] {m : List (α × β)} {a k : α} {b z : β} (h : a ≠ k) : mget (m ++ [(k,b)]) a z = mget m a z := by
  induction m with
  | nil => simp only [List.nil_append,mget]; rw [if_neg h]
  | cons p r ih =>
    obtain ⟨k',b'⟩ := p;simp only [List.cons_append,mget,ih]
theorem mget_snoc_at {α β : Type} [DecidableEq α] {m : List (α × β)} {a : α} {b z : β} (h : a ∉ m.map Prod.fst) : mget (m ++ [(a,b)]) a z = b := by
  induction m with
  | nil => simp [mget]
  | cons p r ih =>
    obtain ⟨k',b'⟩ := p;simp only [List.map_cons,List.mem_cons,not_or] at h;simp only [List.cons_append,mget];rw [if_neg h.1,ih h.2]
def tab {α : Type} (d : α) (f : Nat → Nat) (l : List α) : List (α × Value) := (List.range l.length).map fun i => (l.getD i d,pV (f i) 0)
theorem tab_keys {α : Type} (d : α) (f : Nat → Nat) (l : List α) : (tab d f l).map Prod.fst = l := by
  unfold tab;rw [List.map_map];refine List.ext_getElem (by simp) fun j h1 h2 => ?_;simp only [List.getElem_map,List.getElem_range,Function.comp];exact ZaH d h2
theorem tab_put {α : Type} [DecidableEq α] {d : α} {f : Nat → Nat} {l : List α} {a : α} {b : Nat} (h : a ∉ l) : mput (tab d f l) a (pV b 0) = tab d (ext f l.length b) (l ++ [a]) := by
  rw [mput_new (by rw [tab_keys]; exact h)];unfold tab;rw [List.length_append,List.length_singleton,List.range_succ,List.map_append,List.map_singleton,ext_at]
  congr 1
  · refine List.map_congr_left fun i hi => ?_;have hi' := List.mem_range.1 hi;rw [ext_lt hi',List.getD_eq_getElem?_getD,List.getD_eq_getElem?_getD,List.getElem?_append_left hi']
  · rw [List.getD_eq_getElem?_getD,List.getElem?_append_right (Nat.le_refl _)]; simp
theorem tab_get {α : Type} [DecidableEq α] [BEq α] [LawfulBEq α] {d : α} {f : Nat → Nat} {l : List α} (hn : l.Nodup) {a : α} {z : Value} {i : Nat} (hi : i < l.length) (e : l[i] = a) : mget (tab d f l) a z = pV (f i) 0 := by
  refine ZbT (by rw [tab_keys]; exact hn) ?_;exact List.mem_map.2 ⟨i,List.mem_range.2 hi,by rw [ZaH d hi,e]⟩
theorem tab_no {α : Type} [DecidableEq α] {d : α} {f : Nat → Nat} {l : List α} {a : α} {z : Value} (h : a ∉ l) : mget (tab d f l) a z = z := mget_not (by rw [tab_keys]; exact h)
def cfI (rs : List Rsc) (i j : Nat) : Int := cmpR (rs.getD i rscZ) (rs.getD j rscZ)
theorem ZbR (rs : List Rsc) : PC (cfI rs) := ZbK.comap fun i => rs.getD i rscZ
def sortX (rs : List Rsc) : List Nat := (List.range rs.length).mergeSort fun i j => decide (cfI rs i j ≤ 0)
theorem ZbI (rs : List Rsc) : (sortX rs).Perm (List.range rs.length) := List.mergeSort_perm _ _
theorem sortX_one {rs : List Rsc} (hn : rs.Nodup) {ys : List Nat} (hp : ys.Perm (List.range rs.length)) (hs : ys.Pairwise fun a b => ¬ cfI rs b a < 0) : ys = sortX rs := by
  have key : ∀ zs : List Nat,zs.Perm (List.range rs.length) → (zs.Pairwise fun a b => ¬ cfI rs b a < 0) → zs.Pairwise fun a b => cfI rs a b < 0 := fun zs hz hs => by
    have hnd : zs.Pairwise fun a b => a ≠ b := hz.nodup_iff.2 List.nodup_range;have hm : ∀ x ∈ zs,x < rs.length := fun x hx => List.mem_range.1 (hz.mem_iff.1 hx);refine List.Pairwise.imp_of_mem (fun {a b} ha hb h => ?_) (hs.and hnd);have h1 := (ZbR rs).anti a b
    by_cases h0 : cfI rs a b = 0
    · exfalso
      have h3 := cmpR_zero.1 h0;rw [ZaH rscZ (hm a ha),ZaH rscZ (hm b hb)] at h3;exact h.2 ((List.getElem_inj hn).1 h3)
    · have := h.1; omega
  refine strict_one (R := fun a b => cfI rs a b < 0) (fun x => by rw [(ZbR rs).refl]; omega) (fun x y z => (ZbR rs).trans x y z) (key ys hp hs) (key _ (ZbI rs) ?_) fun x => hp.mem_iff.trans (ZbI rs).mem_iff.symm;have := List.pairwise_mergeSort (le := fun i j => decide (cfI rs i j ≤ 0)) (fun a b c h1 h2 => ?_) (fun a b => ?_) (List.range rs.length)
  · refine List.Pairwise.imp (fun {a b} h => ?_) this;have h1 := (ZbR rs).anti a b;have h2 : cfI rs a b ≤ 0 := by simpa using h
    omega
  · have h1' : cfI rs a b ≤ 0 := by simpa using h1
    have h2' : cfI rs b c ≤ 0 := by simpa using h2
    have : cfI rs a c ≤ 0 := by
      by_cases e1 : cfI rs a b = 0
      · rw [(ZbR rs).eqv a b c e1]; exact h2'
      · by_cases e2 : cfI rs b c = 0
        · have a1 := (ZbR rs).anti b c;have e3 := (ZbR rs).eqv c b a (by omega);have a2 := (ZbR rs).anti a c;have a3 := (ZbR rs).anti a b;omega
        · have := (ZbR rs).trans a b c (by omega) (by omega); omega
    simpa using this
  · have h1 := (ZbR rs).anti a b
    by_cases h : cfI rs a b ≤ 0
    · simp [h]
    · have : cfI rs b a ≤ 0 := by omega
      simp [this]
abbrev amt (D : List (Rsc × Int)) (r : Rsc) : Int := mget D r 0
def negQ (ds : List (List (Rsc × Int))) (r : Rsc) : List Nat := (List.range ds.length).filter fun i => decide (amt (ds.getD i []) r < 0)
def po1 (x : Roo) : Po := ⟨x.r,x.n,0,none,[],0⟩
def poK (ds : List (List (Rsc × Int))) (x : Roo) : Po := ⟨x.r,x.n,(ds.map fun D => amt D x.r).sum,none,negQ ds x.r,0⟩
def efK (rs : List Rsc) (D : List (Rsc × Int)) : List (Nat × Int) := (D.filter fun d => decide (d.1 ∈ rs)).map fun d => (rs.idxOf d.1,d.2)
def plK (rs : List Rsc) (ds : List (List (Rsc × Int))) (D : List (Rsc × Int)) : List (Nat × Nat) := (D.filter fun d => decide (d.1 ∈ rs) && decide (d.2 < 0)).map fun d => (rs.idxOf d.1,(negQ ds d.1).length)
def ndK (rs : List Rsc) (ds : List (List (Rsc × Int))) (x : Itm) (D : List (Rsc × Int)) : Nd := ⟨x,none,efK rs D,none,plK rs ds D,true⟩
def ndsK (rs : List Rsc) (its : List Itm) (k : Nat) : List Nd := (List.range k).map fun i => ndK rs ((its.map dltS).take i) (its.getD i itm0) (dltS (its.getD i itm0))
def netK (ro : List Roo) (its : List Itm) (k : Nat) : Net := ⟨ndsK (ro.map Roo.r) its k,ro.map (poK ((its.map dltS).take k)),none,none⟩
def netT (ro : List Roo) (its : List Itm) (k t : Nat) : Net := ⟨ndsK (ro.map Roo.r) its k ++ [ndK (ro.map Roo.r) ((its.map dltS).take k) (its.getD k itm0) ((dltS (its.getD k itm0)).take t)],ro.map (poK ((its.map dltS).take k ++ [(dltS (its.getD k itm0)).take t])),none,none⟩
theorem filt1 {α : Type} (p : α → Bool) (d : α) : [d].filter p = if p d = true then [d] else [] := by
  cases h : p d <;> simp [List.filter,h]
theorem efK_in {rs : List Rsc} {T : List (Rsc × Int)} {d : Rsc × Int} (h : d.1 ∈ rs) : efK rs (T ++ [d]) = efK rs T ++ [(rs.idxOf d.1,d.2)] := by
  unfold efK; rw [List.filter_append,filt1,if_pos (decide_eq_true h),List.map_append]; rfl
theorem efK_out {rs : List Rsc} {T : List (Rsc × Int)} {d : Rsc × Int} (h : d.1 ∉ rs) : efK rs (T ++ [d]) = efK rs T := by
  unfold efK; rw [List.filter_append,filt1,if_neg (by simp only [decide_eq_true_eq]; exact h),List.append_nil]
theorem plK_in {rs : List Rsc} {ds : List (List (Rsc × Int))} {T : List (Rsc × Int)} {d : Rsc × Int} (h : d.1 ∈ rs) (h2 : d.2 < 0) : plK rs ds (T ++ [d]) = plK rs ds T ++ [(rs.idxOf d.1,(negQ ds d.1).length)] := by
  unfold plK; rw [List.filter_append,filt1,if_pos (by rw [decide_eq_true h,decide_eq_true h2]; rfl),List.map_append]; rfl
theorem plK_out {rs : List Rsc} {ds : List (List (Rsc × Int))} {T : List (Rsc × Int)} {d : Rsc × Int} (h : ¬ (d.1 ∈ rs ∧ d.2 < 0)) : plK rs ds (T ++ [d]) = plK rs ds T := by
  unfold plK; rw [List.filter_append,filt1,if_neg (by rw [Bool.and_eq_true,decide_eq_true_eq,decide_eq_true_eq]; exact h),List.append_nil]
theorem negQ_snoc (ds : List (List (Rsc × Int))) (D : List (Rsc × Int)) (r : Rsc) : negQ (ds ++ [D]) r = negQ ds r ++ if amt D r < 0 then [ds.length] else [] := by
  unfold negQ;rw [List.length_append,List.length_singleton,List.range_succ,List.filter_append]
  congr 1
  · refine List.filter_congr fun i hi => ?_;have hi' := List.mem_range.1 hi;rw [List.getD_eq_getElem?_getD,List.getElem?_append_left hi', ← List.getD_eq_getElem?_getD]
  · have e : (ds ++ [D]).getD ds.length [] = D := by rw [List.getD_eq_getElem?_getD,List.getElem?_append_right (Nat.le_refl _)]; simp
    rw [filt1,e]
    by_cases h : amt D r < 0
    · rw [if_pos (decide_eq_true h),if_pos h]
    · rw [if_neg (by simpa using h),if_neg h]
theorem poK_snoc (ds : List (List (Rsc × Int))) (D : List (Rsc × Int)) (x : Roo) : poK (ds ++ [D]) x = ⟨x.r,x.n,(poK ds x).sum + amt D x.r,none,(poK ds x).q ++ (if amt D x.r < 0 then [ds.length] else []),0⟩ := by
  unfold poK;rw [negQ_snoc,List.map_append,List.sum_append]
  simp
theorem netT_zero {ro : List Roo} {its : List Itm} {k : Nat} : netT ro its k 0 = ⟨(netK ro its k).nd ++ [⟨its.getD k itm0,none,[],none,[],true⟩],(netK ro its k).po,none,none⟩ := by
  unfold netT netK
  congr 1
  refine List.map_congr_left fun x _ => ?_;rw [poK_snoc];unfold poK
  simp [amt,mget]
theorem netT_last {ro : List Roo} {its : List Itm} {k : Nat} (hk : k < its.length) : netT ro its k (dltS (its.getD k itm0)).length = netK ro its (k + 1) := by
  unfold netT netK ndsK;rw [List.take_length,List.range_succ,List.map_append,List.map_singleton]
  congr 1
  have : (its.map dltS).take (k + 1) = (its.map dltS).take k ++ [dltS (its.getD k itm0)] := by
    rw [List.take_succ_eq_append_getElem (by simpa using hk),List.getElem_map,ZaH itm0 hk]
  rw [this]
theorem netT_skip {ro : List Roo} {its : List Itm} {k t : Nat} (ht : t < (dltS (its.getD k itm0)).length) (hr : ((dltS (its.getD k itm0))[t]).1 ∉ ro.map Roo.r) : netT ro its k (t + 1) = netT ro its k t := by
  unfold netT
  obtain ⟨D,hD⟩ : ∃ D,dltS (its.getD k itm0) = D := ⟨_,rfl⟩
  obtain ⟨d,hd⟩ : ∃ d,(dltS (its.getD k itm0))[t] = d := ⟨_,rfl⟩
  rw [hd] at hr;rw [List.take_succ_eq_append_getElem ht,hd]
  have e1 : ∀ (ds : List (List (Rsc × Int))) (T : List (Rsc × Int)),ndK (ro.map Roo.r) ds (its.getD k itm0) (T ++ [d]) = ndK (ro.map Roo.r) ds (its.getD k itm0) T := fun ds T => by
    unfold ndK;rw [efK_out hr,plK_out (fun h => hr h.1)]
  rw [e1]
  congr 1
  refine List.map_congr_left fun x hx => ?_;have hne : x.r ≠ d.1 := fun e => hr (e ▸ List.mem_map.2 ⟨x,hx,rfl⟩);rw [poK_snoc,poK_snoc];have : amt ((dltS (its.getD k itm0)).take t ++ [d]) x.r = amt ((dltS (its.getD k itm0)).take t) x.r := mget_snoc hne;rw [this]
theorem Zb2 (x : Itm) : ((dltS x).map Prod.fst).Nodup := by
  unfold dltS
  split
  · have := dltC_ris (ctr x);show ((dltC (ctr x)).map Prod.fst).Pairwise _;rw [List.pairwise_map];refine this.imp fun {a b} h e => ?_;rw [e,ZbK.refl] at h; omega
  · exact List.nodup_nil
theorem netT_join {ro : List Roo} (hro : (ro.map Roo.r).Nodup) {its : List Itm} {k t j : Nat} (hk : k ≤ its.length) (ht : t < (dltS (its.getD k itm0)).length) (hj : j < ro.length) (hr : (ro.map Roo.r).idxOf ((dltS (its.getD k itm0))[t]).1 = j) (hm : ((dltS (its.getD k itm0))[t]).1 ∈ ro.map Roo.r) {x : Nd} {y : Po} (hx : (netT ro its k t).nd[k]? = some x) (hy : (netT ro its k t).po[j]? = some y) :
    netT ro its k (t + 1) = ⟨(netT ro its k t).nd.set k (jnX x j y.q.length ((dltS (its.getD k itm0))[t]).2),(netT ro its k t).po.set j (jnY y k ((dltS (its.getD k itm0))[t]).2),none,none⟩ := by
  obtain ⟨d,hd⟩ : ∃ d,(dltS (its.getD k itm0))[t] = d := ⟨_,rfl⟩
  rw [hd] at hr hm ⊢
  have hdn : d.1 ∉ ((dltS (its.getD k itm0)).take t).map Prod.fst := fun h => by
    have h1 := Zb2 (its.getD k itm0);rw [← List.take_append_drop t (dltS (its.getD k itm0)),List.drop_eq_getElem_cons ht,hd,List.map_append,List.map_cons,List.nodup_append] at h1;exact h1.2.2 _ h _ (List.mem_cons_self ..) rfl
  have hl : (ndsK (ro.map Roo.r) its k).length = k := by unfold ndsK; simp
  have hdsl : ((its.map dltS).take k).length = k := by simp; omega
  have ex : x = ndK (ro.map Roo.r) ((its.map dltS).take k) (its.getD k itm0) ((dltS (its.getD k itm0)).take t) := by
    have hx' : (ndsK (ro.map Roo.r) its k ++ [ndK (ro.map Roo.r) ((its.map dltS).take k) (its.getD k itm0) ((dltS (its.getD k itm0)).take t)])[k]? = some x := hx;rw [List.getElem?_append_right (by omega),hl,Nat.sub_self] at hx';exact (Option.some.inj hx').symm
  have hy' : (ro.map (poK ((its.map dltS).take k ++ [(dltS (its.getD k itm0)).take t])))[j]? = some y := hy;rw [List.getElem?_map,List.getElem?_eq_getElem hj] at hy';have ey : y = poK ((its.map dltS).take k ++ [(dltS (its.getD k itm0)).take t]) ro[j] := (Option.some.inj hy').symm
  have hrj : ro[j].r = d.1 := by
    have h1 := List.getElem_idxOf (List.idxOf_lt_length_of_mem hm);simp only [hr,List.getElem_map] at h1; exact h1
  have ha0 : amt ((dltS (its.getD k itm0)).take t) d.1 = 0 := mget_not hdn
  have hyq : y.q.length = (negQ ((its.map dltS).take k) d.1).length := by
    rw [ey,poK_snoc,hrj,ha0];show (negQ _ _ ++ _).length = _;rw [hrj]; simp
  unfold netT;rw [List.take_succ_eq_append_getElem ht,hd]
  congr 1
  · rw [List.set_append_right _ _ (by omega),hl,Nat.sub_self,List.set_cons_zero]
    congr 2
    rw [ex];unfold ndK jnX;rw [efK_in hm,hr,hyq]
    by_cases h0 : d.2 < 0
    · rw [plK_in hm h0,hr,if_pos h0]
    · rw [plK_out (fun h => h0 h.2),if_neg h0]
  · refine List.ext_getElem? fun i => ?_;rw [List.getElem?_set]
    by_cases e : j = i
    · subst e;rw [if_pos rfl,if_pos (by simpa using hj),List.getElem?_map,List.getElem?_eq_getElem hj];show some _ = some _
      congr 1
      rw [ey];unfold jnY;rw [poK_snoc,poK_snoc,hrj];have h1 : amt ((dltS (its.getD k itm0)).take t ++ [d]) d.1 = d.2 := mget_snoc_at hdn;rw [h1,ha0,hdsl,hrj.symm];simp only [Int.add_zero,Po.mk.injEq,true_and,and_true]
      by_cases h0 : d.2 < 0
      · simp [h0]
      · simp [h0]
    · rw [if_neg e,List.getElem?_map,List.getElem?_map]
      cases hi : ro[i]? with
      | none => rfl
      | some z =>
        show some _ = some _
        congr 1
        have hil := (List.getElem?_eq_some_iff.1 hi)
        have hne : z.r ≠ d.1 := fun e2 => e (by
          have h1 : (ro.map Roo.r)[j]'(by simpa using hj) = (ro.map Roo.r)[i]'(by simpa using hil.1) := by
            rw [List.getElem_map,List.getElem_map,hil.2,hrj,e2]
          exact (List.getElem_inj hro).1 h1)
        rw [poK_snoc,poK_snoc];have : amt ((dltS (its.getD k itm0)).take t ++ [d]) z.r = amt ((dltS (its.getD k itm0)).take t) z.r := mget_snoc hne;rw [this]
end Go.Proofs.YtneihdahboilnaaGreat
/- Layer 30: what the building of a network needs. -/
namespace Go.Proofs.YtneihdahboilnaaGreat
open Go.RowKit Go.Shelf
set_option maxRecDepth 100000
def nrm1 : D → D
  | .sl (some true) [] => .raw (.slice none 0 0)
  | x => x
def nrm : D → D
  | .agg cs => .agg (cs.map nrm1)
  | x => nrm1 x
theorem nrm1_one (x : D) : (nrm1 x).one = x.one := by
  unfold nrm1
  split <;> rfl
theorem RepD.nrm1 {w : World} {O : Nat → Prop} {x : D} {v : Value} (h : RepD w O x v) : RepD w O (nrm1 x) v := by
  unfold Go.Proofs.YtneihdahboilnaaGreat.nrm1
  split
  · cases h with
    | sl k hn hz hln hc hm hk ha hp =>
      rename_i a n cap
      have h1 := hn true rfl
      have h2 : a = none := by cases a with
        | none => rfl
        | some _ => cases h1
      subst h2;have h3 := hz rfl;have h4 : n = 0 := hln.symm;subst h3 h4;exact .raw rfl
  · exact h
theorem RepD.nrm {w : World} {O : Nat → Prop} {x : D} {v : Value} (h : RepD w O x v) : RepD w O (nrm x) v := by
  unfold Go.Proofs.YtneihdahboilnaaGreat.nrm
  split
  · rename_i cs
    cases h with
    | agg hl h1 hr =>
      refine .agg (by rw [hl,List.length_map]) (fun c hc => ?_) fun i c v hc hv => ?_
      · obtain ⟨d,hd,rfl⟩ := List.mem_map.1 hc;rw [nrm1_one]; exact h1 d hd
      · rw [List.getElem?_map] at hc
        cases hd : cs[i]? with
        | none => rw [hd] at hc; cases hc
        | some d =>
          rw [hd] at hc; injection hc with hc; subst hc
          exact (hr i d v hd hv).nrm1
  · exact h.nrm1
section
variable {P : Program} {F : Fr} {Q : Exit → AS → Prop} {ops : Array Oper} {l : List Oper} {n : Nat} {env : List (Nat × AV)} {hp : Hp}
theorem o_nrm (t : Nat) {x : D} (ht : get env t = some (.d x)) (h : Aops P F ops l Q ⟨n,(t, .d (nrm x)) :: env,hp⟩) : Aops P F ops l Q ⟨n,env,hp⟩ := fun ρ act w hs => h ρ act w ⟨hs.size,hs.defs,fun t' a ha => by
  rcases Zbd ha with ⟨rfl,rfl⟩ | ⟨_,ha⟩
  · have hr := hs.env t _ ht
    generalize act.tmps.getD t undef = v at hr ⊢
    cases hr with
    | d h => exact .d h.nrm
  · exact hs.env t' a ha,hs.heap⟩
end
def sortM (M : MF) (h : Hd) (E : TypeId) (ys : List D) : MF := match h with
  | none => M
  | some (b,c) => Za2 M b (.row E 1 c ys)
theorem hmul_self {f : Nat} {M : MF} : ∀ (H H' : Hp),hfam H f = some [.multi M] → hmul? H f M = some H' → H' = H := by
  intro H
  induction H with
  | nil => intro H' h; cases h
  | cons p r ih =>
    obtain ⟨k,l⟩ := p;intro H' h1 h2;simp only [hfam] at h1;simp only [hmul?] at h2
    cases hk : Nat.beq k f with
    | true =>
      rw [hk] at h1 h2;injection h1 with h1
      subst h1;simp only [isM] at h2;injection h2 with h2; exact h2.symm
    | false =>
      rw [hk] at h1 h2;dsimp only at h1 h2
      cases hr : hmul? r f M with
      | none => rw [hr] at h2; cases h2
      | some r' =>
        rw [hr] at h2; injection h2 with h2
        rw [← h2,ih r' h1 hr]
theorem st_sortH {P : Program} {ρr : Ren} {τ : Type} (L : SlLaysF.n6 P ρr) {E : TypeId} {g g6 : FuncId} {fn : Func} (hfn : P.funcs[g]? = some fn) (hnm : (fn.name == "runtime.NumGoroutine") = false) {c : Code} (hbody : fn.body = some c)
    {bl : τ → Nat} {px : τ → List D} {tx : τ → TypeId} (cf : τ → τ → Int) (hO : Go.Sort.SWO (ltOf cf)) (xs ys0 : List τ) (hsz : xs.length < 4611686018427387904) (hc : ∀ x ∈ xs, ∀ y ∈ xs,PCalls P g [.d (.ptr (.agg (px x))), .d (.ptr (.agg (px y)))] (.raw (.int .i64 (cf x y))))
    (hu : ∀ ys : List τ,ys.Perm xs → ys.Pairwise (fun a b => ¬ cf b a < 0) → ys = ys0)
    {F : Fr} {s : AS} {d : Nat} {x y : Operand} {ty : TypeId} {pos : String} {aft : Array Edge} {gd : Option (Nat × Bool)} {at_ : Array TypeId} {f n : Nat} {h : Hd} {M : MF} {fa : AV} {row : List D} {hp' : Hp}
    (hg : ρr.f 6 = g6) (hM : hfam s.hp f = some [.multi M]) (hpx : ∀ x ∈ xs,M (bl x) = some (.cells (tx x) (px x))) (h1x : ∀ x ∈ xs, ∀ c ∈ px x,c.one = true) (hx : s.ev x = some (.d (hdr h n))) (hy : s.ev y = some fa) (hfa : ∀ w O ρ v,RepA w O ρ fa v → v = .func (.func g) #[] #[]) (hb : rowAt M h E 1 row) (hrow : row = xs.map fun x => pD (bl x) 0) (hn : n = xs.length) (hxh : h ≠ none → xs ≠ []) (hh : hmul? s.hp f (sortM M h E (ys0.map fun x => pD (bl x) 0)) = some hp') (hd : Nat.blt d s.n = true) :
    Zaj P F ⟨some d, .call { callee := .value (.func g6),args := #[x,y],argTypes := at_ },ty,pos,aft,gd⟩ s ⟨s.n,(d, .d (.tup [])) :: s.env,hp'⟩ (fun _ _ => true) := by
  match h,hx,hb,hh,hxh with
  | none,hx,hb,hh,_ =>
    rw [hmul_self _ _ hM hh];exact st_sortN0 L hg hx hy hd
  | some (b,cap),hx,hb,hh,hxh => exact st_sortN L hfn hnm hbody cf hO xs ys0 hsz hc hu hg hM hpx h1x hx hy hfa hb.2 hrow hn (hxh (by simp)) hh hd
theorem rep0 (wb mv : Nat) (nb pb : Nat → Nat) {M : MF} (hw : M wb = some (nwM none 0 none 0 mv)) : Rep wb mv nb pb ⟨[],[],none,none⟩ M := by
  refine ⟨fun i x hx => by simp at hx,fun j y hy => by simp at hy,⟨fun r => ?_,fun r r' b c c' h1 h2 => ?_⟩,hw,fun i j hi _ => by simp at hi,fun i j hi _ => by simp at hi,fun x hx => (by cases hx),fun y hy => (by cases hy)⟩
  · cases r <;> rfl
  · cases r <;> cases h1
structure FewP (p : Prb) : Prop where
  i : p.it.length ≤ 30
  r : p.ro.length ≤ 100
  x : ∀ x ∈ p.it,x.po.length ≤ 8 ∧ x.pa.length ≤ 8 ∧ x.af.length ≤ 8
def FewI (x : Itm) : Prop := x.po.length ≤ 8 ∧ x.pa.length ≤ 8 ∧ x.af.length ≤ 8
theorem FewP.b {p : Prb} (h : FewP p) : PrbB p := ⟨by have := h.r; omega,by have := h.i; omega,fun i hi => by have := h.x i hi; omega⟩
theorem nodup_of_fst {α β : Type} {l : List (α × β)} (h : (l.map Prod.fst).Nodup) : l.Nodup := by
  have h' : (l.map Prod.fst).Pairwise (fun a b => a ≠ b) := h;rw [List.pairwise_map] at h';exact h'.imp fun {a b} h e => h (by rw [e])
theorem dlt_len {x : Itm} (h : FewI x) : (dltS x).length ≤ 40 := by
  unfold dltS
  split
  · have h1 : (dltL x).length ≤ (ctr x).length := by
      have h2 : (dltC (ctr x)).length ≤ (sumL (ctr x)).length := by
        have hp : (dltC (ctr x)).Perm ((sumL (ctr x)).filter fun d => decide (d.2 ≠ 0)) := by
          refine (List.perm_ext_iff_of_nodup ?_ ?_).2 fun d => ?_
          · have := dltC_ris (ctr x);refine this.imp fun {a b} h e => ?_;rw [e,ZbK.refl] at h; omega
          · exact (nodup_of_fst (sumL_nodup (ctr x))).filter _
          · rw [dltC_mem,List.mem_filter]; simp
        rw [hp.length_eq];exact List.length_filter_le _ _
      exact Nat.le_trans h2 (sumL_length _)
    have := ctr_length x;have := h.1; have := h.2.1;omega
  · exact Nat.zero_le _
theorem dlt_bnd (x : Itm) : Bnd (dltS x) := by
  unfold dltS
  split
  · rename_i hE
    intro d hd;exact bnd_E hE d ((dltC_mem _ _).1 hd).1
  · intro d hd; cases hd
theorem amt_bnd {D : List (Rsc × Int)} (h : Bnd D) (r : Rsc) : -1000000000000000 ≤ amt D r ∧ amt D r ≤ 1000000000000000 := by
  unfold amt
  induction D with
  | nil => simp [mget]
  | cons d D ih =>
    obtain ⟨k,b⟩ := d;simp only [mget]
    split
    · exact h (k,b) (List.mem_cons_self ..)
    · exact ih fun x hx => h x (List.mem_cons_of_mem _ hx)
theorem sum_bnd : ∀ {ds : List (List (Rsc × Int))} (_ : ∀ D ∈ ds,Bnd D) (r : Rsc), -(ds.length * 1000000000000000) ≤ (ds.map fun D => amt D r).sum ∧ (ds.map fun D => amt D r).sum ≤ ds.length * 1000000000000000
  | [],_,r => by simp
  | D :: ds,h,r => by
    have h1 := amt_bnd (h D (List.mem_cons_self ..)) r;have h2 := sum_bnd (ds := ds) (fun D hD => h D (List.mem_cons_of_mem _ hD)) r;simp only [List.map_cons,List.sum_cons,List.length_cons];omega
theorem negQ_len (ds : List (List (Rsc × Int))) (r : Rsc) : (negQ ds r).length ≤ ds.length := by
  unfold negQ;refine Nat.le_trans (List.length_filter_le _ _) ?_
  simp
theorem efK_len (rs : List Rsc) (D : List (Rsc × Int)) : (efK rs D).length ≤ D.length := by
  unfold efK; rw [List.length_map]; exact List.length_filter_le _ _
theorem plK_len (rs : List Rsc) (ds : List (List (Rsc × Int))) (D : List (Rsc × Int)) : (plK rs ds D).length ≤ D.length := by
  unfold plK; rw [List.length_map]; exact List.length_filter_le _ _
theorem ers_nd {N : Net} {i : Nat} {x : Nd} (h : N.nd[i]? = some x) : (ersN N).nd[i]? = some (ers x) := by
  show (N.nd.map ers)[i]? = _;rw [List.getElem?_map,h]; rfl
theorem ers_po {N : Net} {i : Nat} {y : Po} (h : N.po[i]? = some y) : (ersN N).po[i]? = some (ersP y) := by
  show (N.po.map ersP)[i]? = _;rw [List.getElem?_map,h]; rfl
theorem T_bounds {ro : List Roo} {its : List Itm} (hi : its.length ≤ 30) (hx : ∀ x ∈ its,FewI x) {k t j : Nat} (hk : k < its.length) {N : Net} (h : ersN N = netT ro its k t) {x : Nd} {y : Po} (h1 : N.nd[k]? = some x) (h2 : N.po[j]? = some y) :
    (-1000000000000000000 ≤ y.sum ∧ y.sum ≤ 1000000000000000000) ∧ x.ef.length ≤ 100000 ∧ x.pl.length ≤ 100000 ∧ y.q.length ≤ 100000 := by
  have a1 := ers_nd h1;have a2 := ers_po h2;rw [h] at a1 a2;have hl : (ndsK (ro.map Roo.r) its k).length = k := by unfold ndsK; simp
  have hdl : (dltS (its.getD k itm0)).length ≤ 40 := dlt_len (hx _ (by rw [ZaH itm0 hk]; exact List.getElem_mem hk));have a1' : (ndsK (ro.map Roo.r) its k ++ [ndK (ro.map Roo.r) ((its.map dltS).take k) (its.getD k itm0) ((dltS (its.getD k itm0)).take t)])[k]? = some (ers x) := a1;rw [List.getElem?_append_right (by omega),hl,Nat.sub_self] at a1';have ex : ers x = _ := (Option.some.inj a1').symm;have e1 : x.ef = (ers x).ef := rfl;have e2 : x.pl = (ers x).pl := rfl;have a2' : (ro.map (poK ((its.map dltS).take k ++ [(dltS (its.getD k itm0)).take t])))[j]? = some (ersP y) := a2;rw [List.getElem?_map] at a2'
  cases hj : ro[j]? with
  | none => rw [hj] at a2'; cases a2'
  | some z =>
    rw [hj] at a2';have ey : ersP y = poK ((its.map dltS).take k ++ [(dltS (its.getD k itm0)).take t]) z := (Option.some.inj a2').symm;have e3 : y.sum = (ersP y).sum := rfl;have e4 : y.q = (ersP y).q := rfl;have hds : ((its.map dltS).take k ++ [(dltS (its.getD k itm0)).take t]).length ≤ 31 := by simp; omega
    have hb := sum_bnd (ds := (its.map dltS).take k ++ [(dltS (its.getD k itm0)).take t]) (fun D hD => by
      rcases List.mem_append.1 hD with hD | hD
      · obtain ⟨x,_,rfl⟩ := List.mem_map.1 (List.mem_of_mem_take hD);exact dlt_bnd x
      · rw [List.mem_singleton.1 hD]; exact (dlt_bnd _).take t) z.r
    have hq := negQ_len ((its.map dltS).take k ++ [(dltS (its.getD k itm0)).take t]) z.r;have he := efK_len (ro.map Roo.r) ((dltS (its.getD k itm0)).take t);have hp := plK_len (ro.map Roo.r) ((its.map dltS).take k) ((dltS (its.getD k itm0)).take t);rw [List.length_take] at he hp;rw [e1,e2,e3,e4,ex,ey];unfold poK ndK;dsimp only
    generalize (List.map (fun D => amt D z.r) (List.take k (List.map dltS its) ++ [List.take t (dltS (its.getD k itm0))])).sum = S at hb ⊢
    generalize (List.take k (List.map dltS its) ++ [List.take t (dltS (its.getD k itm0))]).length = m at *
    omega
theorem T_step {ro : List Roo} (hro : (ro.map Roo.r).Nodup) {its : List Itm} {k t j : Nat} (hk : k < its.length) (ht : t < (dltS (its.getD k itm0)).length) {N N' : Net} (h : ersN N = netT ro its k t) (hr : (ro.map Roo.r).idxOf ((dltS (its.getD k itm0))[t]).1 = j) (hm : ((dltS (its.getD k itm0))[t]).1 ∈ ro.map Roo.r) {x x' : Nd} {y y' : Po} (h1 : N.nd[k]? = some x) (h2 : N.po[j]? = some y)
    (e1 : N'.nd = N.nd.set k x') (ex : ers x' = ers (jnX x j y.q.length ((dltS (its.getD k itm0))[t]).2)) (e2 : N'.po = N.po.set j y') (ey : ersP y' = ersP (jnY y k ((dltS (its.getD k itm0))[t]).2)) : ersN N' = netT ro its k (t + 1) := by
  have a1 := ers_nd h1;have a2 := ers_po h2
  have hj : j < ro.length := by
    have := List.idxOf_lt_length_of_mem hm;rw [hr] at this; simpa using this
  rw [h] at a1 a2;rw [netT_join hro (Nat.le_of_lt hk) ht hj hr hm a1 a2, ← h];unfold ersN;dsimp only;rw [e1,e2,List.map_set,List.map_set,ex,ey]
  rfl
theorem RowsM.del {M : MF} {R : RI → RowM} (h : RowsM M R) {b : Nat} {t : TypeId} {cs : List D} (hb : M b = some (.cells t cs)) : RowsM (mdel_ M b) R := by
  refine ⟨fun r => ?_,h.2⟩;have h1 := h.1 r
  cases hh : (R r).h with
  | none => rw [hh] at h1; exact h1
  | some p =>
    obtain ⟨b',c⟩ := p;rw [hh] at h1;refine ⟨h1.1, ?_⟩;rw [mdel_ne]
    · exact h1.2
    · rintro rfl;have := h1.2;rw [hb] at this; cases this
theorem Rep.addN2 {wb mv : Nat} {nb pb : Nat → Nat} {N : Net} {M : MF} (h : Rep wb mv nb pb N M) {x : Nd} (hx1 : x.ef = []) (hx2 : x.eh = none) (hx3 : x.pl = []) (hx4 : x.ph = none) {bn : Nat} (hM : M bn = some (ndM x)) (hbn : ∀ j,j < N.nd.length → nb j ≠ bn) {b cap : Nat} (hb : mdelH (mdel_ M wb) N.nh b = none) (hl : N.nd.length + 1 ≤ cap) {wb' : Nat} (hw' : Za2 (mdelH (mdel_ M wb) N.nh) b (.row pnT 1 cap ((List.range N.nd.length).map (fun j => ptrD (nb j)) ++ [ptrD bn])) wb' = none) :
    Rep wb' mv (ext nb N.nd.length bn) pb { N with nd := N.nd ++ [x],nh := some (b,cap) } (Za2 (Za2 (mdelH (mdel_ M wb) N.nh) b (.row pnT 1 cap ((List.range N.nd.length).map (fun j => ptrD (nb j)) ++ [ptrD bn]))) wb' (nwM (some (b,cap)) (N.nd.length + 1) N.mh N.po.length mv)) := by
  have hq : ∀ j,((N.po.getD j po0).q.map fun i => ptrD (ext nb N.nd.length bn i)) = (N.po.getD j po0).q.map fun i => ptrD (nb i) := fun j => List.map_congr_left fun e he => by
    rcases getD_mem (l := N.po) (d := po0) j with hm | hm
    · rw [ext_lt (h.q _ hm e he)]
    · rw [hm] at he; cases he
  have hR : ∀ r,r ≠ RI.n → rowOf (ext nb N.nd.length bn) pb { N with nd := N.nd ++ [x],nh := some (b,cap) } r = rowOf nb pb N r := fun r hr => by
    cases r with
    | q j => show (⟨_,_,_,(N.po.getD j po0).q.map _⟩ : RowM) = _; rw [hq]; rfl
    | m => rfl
    | n => exact absurd rfl hr
    | e i =>
      show (⟨((N.nd ++ [x]).getD i nd0).eh,_,_,((N.nd ++ [x]).getD i nd0).ef.map _⟩ : RowM) = ⟨(N.nd.getD i nd0).eh,_,_,(N.nd.getD i nd0).ef.map _⟩
      rw [getD_snoc]
      split
      · rename_i e
        rw [hx1,hx2,List.getD_eq_getElem?_getD,List.getElem?_eq_none (by omega)]; rfl
      · rfl
    | p i =>
      show (⟨((N.nd ++ [x]).getD i nd0).ph,_,_,((N.nd ++ [x]).getD i nd0).pl.map _⟩ : RowM) = ⟨(N.nd.getD i nd0).ph,_,_,(N.nd.getD i nd0).pl.map _⟩
      rw [getD_snoc]
      split
      · rename_i e
        rw [hx3,hx4,List.getD_eq_getElem?_getD,List.getElem?_eq_none (by omega)]; rfl
      · rfl
  have hd := h.rs.del h.w
  have hup := hd.upd (R' := rowOf (ext nb N.nd.length bn) pb { N with nd := N.nd ++ [x],nh := some (b,cap) }) .n hR (b := b) (cap := cap) hb rfl (by
    show ((List.range (N.nd ++ [x]).length).map _).length ≤ cap
    simp; exact hl)
  have hrow : (rowOf (ext nb N.nd.length bn) pb { N with nd := N.nd ++ [x],nh := some (b,cap) } .n).xs = (List.range N.nd.length).map (fun j => ptrD (nb j)) ++ [ptrD bn] := by
    show (List.range (N.nd ++ [x]).length).map _ = _;rw [List.length_append,List.length_singleton,range_ext]
  rw [hrow] at hup
  have hk : ∀ (b' : Nat) (t : TypeId) (cs : List D),t ≠ 108 → M b' = some (.cells t cs) → Za2 (Za2 (mdelH (mdel_ M wb) N.nh) b (.row pnT 1 cap ((List.range N.nd.length).map (fun j => ptrD (nb j)) ++ [ptrD bn]))) wb' (nwM (some (b,cap)) (N.nd.length + 1) N.mh N.po.length mv) b' = some (.cells t cs) := fun b' t cs ht hm => by
    refine mput_some hw' ?_
    have h1 : mdel_ M wb b' = some (.cells t cs) := by
      rw [mdel_ne]
      · exact hm
      · rintro rfl; rw [h.w] at hm; injection hm with hm; injection hm with hm; exact ht hm.symm
    exact Go.Proofs.YtneihdahboilnaaGreat.keepM hb h1 fun c hc => by have := hd.blk (r := .n) hc; rw [h1] at this; cases this
  refine ⟨fun i z hz => ?_,fun j y hy => hk _ _ _ (by decide) (h.p j y hy),⟨fun r => rowAt_fresh hw' (hup.1 r),hup.2⟩, ?_,fun i k hi hk e => ?_,h.pi,fun z hz => ?_,fun y hy => ?_⟩
  · rcases snoc_get hz with ⟨h1,h2⟩ | ⟨h1,h2⟩
    · rw [ext_lt h1]; exact hk _ _ _ (by decide) (h.n i z h2)
    · subst h1 h2; rw [ext_at]; exact hk _ _ _ (by decide) hM
  · rw [Zbt];show _ = some (MObj.cells _ [hdr _ (N.nd ++ [x]).length,_,_]);rw [List.length_append]; rfl
  · have hi' : i < N.nd.length + 1 := by simpa using hi
    have hk' : k < N.nd.length + 1 := by simpa using hk
    by_cases e1 : i = N.nd.length <;> by_cases e2 : k = N.nd.length
    · omega
    · subst e1;rw [ext_at,ext_lt (by omega)] at e;exact absurd e.symm (hbn k (by omega))
    · subst e2;rw [ext_at,ext_lt (by omega)] at e;exact absurd e (hbn i (by omega))
    · rw [ext_lt (by omega),ext_lt (by omega)] at e;exact h.ni i k (by omega) (by omega) e
  · rcases List.mem_append.1 hz with hz | hz
    · exact h.e z hz
    · have e := List.mem_singleton.1 hz;subst e;refine ⟨fun e he => ?_,fun e he => ?_⟩
      · rw [hx1] at he; cases he
      · rw [hx3] at he; cases he
  · intro i hi;have := h.q y hy i hi
    simp; omega
section
variable {P : Program} {F : Fr} {s : AS} {d : Nat} {ty T T' E : TypeId} {pos : String} {aft : Array Edge} {g : Option (Nat × Bool)} {x : Operand}
theorem st_neqPr {p : Option Addr} (hT : P.underlying T = some (.pointer E)) (hx : s.ev x = some (.d (.raw (.pointer p)))) (hd : Nat.blt d s.n = true) : Zaa P F ⟨some d, .binOp .neq T x (.const (.pointer none)) T',ty,pos,aft,g⟩ s d (.d (.raw (.bool (!p.isNone)))) :=
  ZaO _ hd fun ρ act w hs => by
    have hv := hs.raw hx;have hp : P.pointee T = E := by unfold Program.pointee; rw [hT]
    have hc : act.eval (.const (.pointer none)) = .pointer none := rfl;exact ⟨.bool (!p.isNone),by simp [execOp,hv,hc,eqGuard_ptr,binOp,run_equal_pointer_nil w T p (by rw [hp]; exact hT)], .d (.raw rfl)⟩
end
section
variable {P : Program} {F : Fr} {s : AS} {d : Nat} {ty T : TypeId} {pos : String} {aft : Array Edge} {g : Option (Nat × Bool)} {x : Operand}
theorem st_loadMp (gg jg : Nat) {f j off f2 j2 m : Nat} {t : TypeId} {cs : List AV} (hx : s.ev x = some (.ptr f j off)) (ho : hget s.hp f j = some (.blk t cs)) (hc : cs[off]? = some (.d (.raw (.map (some m))))) (hg : hget s.hp gg jg = some (.addr f2 j2 (.map (some m)))) (hT : oneTy P T = true) (hd : Nat.blt d s.n = true) :
    Zaa P F ⟨some d, .load T x,ty,pos,aft,g⟩ s d (.map f2 j2) := by
  have h := Zah (F := F) (ty := ty) (pos := pos) (aft := aft) (g := g) hx ho hc hT hd;refine ⟨h.1,h.2.1,fun ρ act w hs => ?_⟩;refine Zb8 (fun a w' ⟨v,e1,e2,e3⟩ => ⟨v,e1, ?_,e3⟩) (h.2.2 ρ act w hs)
  cases e2 with
  | d e2 => cases e2 with
    | raw _ =>
      obtain ⟨_,hv⟩ := hs.heap.sim gg jg _ hg;exact .map hv
end
def rosS (p : Prb) : List Roo := (sortX (p.ro.map Roo.r)).map fun i => p.ro.getD i roo0
def finP (y : Po) : Po := { y with mi := y.q.length }
def netP (p : Prb) : Net := ⟨(netK (rosS p) (ordP p) (ordP p).length).nd,(netK (rosS p) (ordP p) (ordP p).length).po.map finP,none,none⟩
theorem nod_tk {α : Type} {l : List Roo} {f : Roo → α} (h : (l.map f).Nodup) (k : Nat) : ((l.take k).map f).Nodup := by
  exact h.sublist ((List.take_sublist k l).map f)
theorem nod_take {l : List Roo} {f : Roo → Rsc} (h : (l.map f).Nodup) {k : Nat} (hk : k < l.length) : f l[k] ∉ (l.take k).map f := fun hm => by
  have h1 := nod_tk h (k + 1);rw [tk_map hk,List.nodup_append] at h1;exact h1.2.2 _ hm _ (List.mem_singleton_self _) rfl
abbrev nilP : D := .raw (.pointer none)
theorem roos_nodup {p : Prb} (hE : prbE p = 0) : (p.ro.map Roo.r).Nodup := by
  have h0 := ZbL.1 (ZbO hE).1;rw [List.Nodup,List.pairwise_map,List.pairwise_iff_getElem];intro i j hi hj hij e;have := h0 j (List.mem_range.2 hj);unfold rErr at this;rw [ZaH roo0 hj] at this
  split at this
  · contradiction
  · split at this
    · cases this
    · split at this
      · cases this
      · rename_i hn; exact hn (mem_tk hj hij e)
theorem pm_in {rs : List Rsc} (hn : rs.Nodup) {ys : List Nat} (hp : ys.Perm (List.range rs.length)) {f : Nat → Nat} {r : Rsc} {z : Value} (hm : r ∈ ys.map fun i => rs.getD i rscZ) : mget (tab rscZ f rs) r z = pV (f (ys.getD ((ys.map fun i => rs.getD i rscZ).idxOf r) 0)) 0 := by
  have hj := List.idxOf_lt_length_of_mem hm;have he := List.getElem_idxOf hj
  generalize (ys.map fun i => rs.getD i rscZ).idxOf r = j at hj he ⊢
  rw [List.length_map] at hj;rw [List.getElem_map] at he;have hi : ys[j] < rs.length := List.mem_range.1 (hp.mem_iff.1 (List.getElem_mem hj));rw [ZaH rscZ hi] at he;rw [ZaH 0 hj];exact tab_get hn hi he
theorem pm_out {rs : List Rsc} {ys : List Nat} (hp : ys.Perm (List.range rs.length)) {f : Nat → Nat} {r : Rsc} {z : Value} (hm : r ∉ ys.map fun i => rs.getD i rscZ) : mget (tab rscZ f rs) r z = z := by
  refine tab_no fun h => hm ?_;obtain ⟨i,hi,e⟩ := List.getElem_of_mem h;exact List.mem_map.2 ⟨i,hp.mem_iff.2 (List.mem_range.2 hi),by rw [ZaH rscZ hi,e]⟩
theorem rosS_r (p : Prb) : (rosS p).map Roo.r = (sortX (p.ro.map Roo.r)).map fun i => (p.ro.map Roo.r).getD i rscZ := by
  unfold rosS;rw [List.map_map];refine List.map_congr_left fun i hi => ?_;have hi' := List.mem_range.1 ((ZbI (p.ro.map Roo.r)).mem_iff.1 hi);have hi2 : i < p.ro.length := by simpa using hi'
  show (p.ro.getD i roo0).r = _;rw [ZaH roo0 hi2,ZaH rscZ hi',List.getElem_map]
set_option maxHeartbeats 2000000 in
theorem build_bad (p : Prb) (hf : FewP p) (hE : prbE p ≠ 0) : ACalls Tryz.prog 43 [.d (prbD p)] [] fun r H' => r = .d (.tup [nilP,intD (prbE p)]) ∧ H' = [] := by
  have hck := pcheck_p p hf.b;refine ZaB Tryz.func43 rfl rfl Tryz.ntmps43 rfl rfl rfl fun F hF => (Zad (Zab (Zaj.go (ZaS 1 rfl rfl rfl rfl rfl rfl rfl) (goAs rfl rfl (goAs rfl rfl (Zac (Zad (Zad ?_))))))));refine Zab (Zaa.go (Zas rfl rfl rw35 rfl rfl rfl) (Zaa.go (Zau (hck) rfl rfl) (goAs rfl rfl (Zac (Zad (Zab (goMv rfl rfl (Zaa.go (Zbi rfl rfl rfl) ?_))))))));refine Zac (ZaU rfl ((by simpa using hE)) (Zad (Zab (goMv rfl rfl (goAs rfl rfl (goAs rfl rfl (Zac (Zao ?_))))))));exact ⟨_,[],[],Zak rfl,rfl,rfl,rfl,rfl⟩
theorem poC_one (y : Po) : ∀ c ∈ poC y,c.one = true := by
  intro c hc;simp only [List.mem_cons,List.not_mem_nil,or_false] at hc;rcases hc with rfl | rfl | rfl | rfl | rfl | rfl | rfl | rfl | rfl | rfl <;> rfl
theorem rs_getD {p : Prb} {i : Nat} (hi : i < p.ro.length) : (p.ro.map Roo.r).getD i rscZ = (p.ro.getD i roo0).r := by
  rw [ZaH roo0 hi,ZaH rscZ (by simpa using hi),List.getElem_map]
theorem sort_cmp (p : Prb) : ∀ i ∈ List.range p.ro.length, ∀ j ∈ List.range p.ro.length,PCalls Tryz.prog 74 [.d (.ptr (.agg (poC (po1 (p.ro.getD i roo0))))), .d (.ptr (.agg (poC (po1 (p.ro.getD j roo0)))))] (.raw (.int .i64 (cfI (p.ro.map Roo.r) i j))) := fun i hi j hj => by
  have h := cmpPo_p (po1 (p.ro.getD i roo0)) (po1 (p.ro.getD j roo0))
  have e : cfI (p.ro.map Roo.r) i j = cmpR (p.ro.getD i roo0).r (p.ro.getD j roo0).r := by
    unfold cfI;rw [rs_getD (List.mem_range.1 hi),rs_getD (List.mem_range.1 hj)]
  rw [e]; exact h
theorem sort_px {p : Prb} {wb mv : Nat} {pb : Nat → Nat} {mh : Hd} {M : MF} (hR : Rep wb mv (fun _ => 0) pb ⟨[],p.ro.map po1,none,mh⟩ M) : ∀ i ∈ List.range p.ro.length,M (pb i) = some (.cells 121 (poC (po1 (p.ro.getD i roo0)))) := fun i hi => by
  have hi' := List.mem_range.1 hi;refine hR.p i (po1 (p.ro.getD i roo0)) ?_;show (p.ro.map po1)[i]? = _;rw [List.getElem?_map,List.getElem?_eq_getElem hi',ZaH roo0 hi']; rfl
theorem sort_rep {p : Prb} {wb mv : Nat} {pb : Nat → Nat} {mh : Hd} {M : MF} (hR : Rep wb mv (fun _ => 0) pb ⟨[],p.ro.map po1,none,mh⟩ M) :
    Rep wb mv (fun _ => 0) (fun k => pb ((sortX (p.ro.map Roo.r)).getD k 0)) ⟨[],(rosS p).map po1,none,mh⟩ (sortM M mh ppT ((sortX (p.ro.map Roo.r)).map fun x => pD (pb x) 0)) := by
  have hp : (sortX (p.ro.map Roo.r)).Perm (List.range (p.ro.map po1).length) := by
    have := ZbI (p.ro.map Roo.r);rw [List.length_map] at this ⊢; exact this
  have hpo : (sortX (p.ro.map Roo.r)).map (fun i => (p.ro.map po1).getD i po0) = (rosS p).map po1 := by
    unfold rosS;rw [List.map_map];refine List.map_congr_left fun i hi => ?_;have hi' := List.mem_range.1 (hp.mem_iff.1 hi);have hi2 : i < p.ro.length := by simpa using hi'
    show _ = po1 (p.ro.getD i roo0);rw [ZaH po0 hi',ZaH roo0 hi2,List.getElem_map]
  cases hmh : mh with
  | some q =>
    obtain ⟨b,c⟩ := q;subst hmh;have h := hR.perm rfl (fun y hy => by obtain ⟨x,_,rfl⟩ := List.mem_map.1 hy; exact ⟨rfl,rfl⟩) hp rfl;dsimp only at h;rw [hpo] at h;exact h
  | none =>
    subst hmh;have h0 : rowAt M none ppT 1 ((List.range (p.ro.map po1).length).map fun j => ptrD (pb j)) := hR.rs.1 .m;have h1 := Zbs h0 rfl;rw [List.length_range,List.length_map] at h1;have h2 : p.ro = [] := List.eq_nil_of_length_eq_zero h1
    have h3 : (rosS p).map po1 = p.ro.map po1 := by
      have h4 : sortX (p.ro.map Roo.r) = [] := List.eq_nil_of_length_eq_zero (by rw [hp.length_eq,List.length_range,List.length_map,h1]);rw [← hpo,h4,h2]; rfl
    rw [h3];rw [h2] at hR ⊢;exact ⟨hR.n,fun j y hy => by simp at hy,⟨fun r => by cases r <;> rfl,fun r r' b c c' e1 e2 => by cases r <;> cases e1⟩,hR.w,hR.ni,fun i j hi _ _ => by simp at hi,hR.e,hR.q⟩
theorem net_start (ros : List Roo) (its : List Itm) {mh : Hd} : ersN ⟨[],ros.map po1,none,mh⟩ = netK ros its 0 := by
  unfold ersN netK ndsK;dsimp only;rw [List.map_map]
  rfl
theorem ord_ids {p : Prb} (hE : prbE p = 0) : ((ordP p).map Itm.id).Nodup := by
  have h1 : ordP p = sortO p.it := if_pos hE;rw [h1];exact ((Zbe p.it).map Itm.id).nodup_iff.2 (items_ids (ZbO hE).2.1)
theorem rosS_nodup {p : Prb} (hE : prbE p = 0) : ((rosS p).map Roo.r).Nodup := by
  have h1 : (rosS p).Perm p.ro := by
    unfold rosS;refine ((ZbI (p.ro.map Roo.r)).map _).trans (List.Perm.of_eq ?_);rw [List.length_map]
    apply List.ext_getElem (by simp)
    intro i h1 h2;simp only [List.getElem_map,List.getElem_range];exact ZaH roo0 (by simpa using h2)
  exact (h1.map Roo.r).nodup_iff.2 (roos_nodup hE)
theorem nod_takeI {l : List Itm} (h : (l.map Itm.id).Nodup) {k : Nat} (hk : k < l.length) : l[k].id ∉ (l.take k).map Itm.id := fun hm => by
  have h1 : ((l.take (k + 1)).map Itm.id).Nodup := h.sublist ((List.take_sublist (k + 1) l).map Itm.id);rw [tk_map hk,List.nodup_append] at h1;exact h1.2.2 _ hm _ (List.mem_singleton_self _) rfl
theorem nd_len {N : Net} {ros : List Roo} {its : List Itm} {k : Nat} (h : ersN N = netK ros its k) : N.nd.length = k := by
  have h1 := congrArg (fun N => N.nd.length) h;have h2 : (N.nd.map ers).length = (ndsK (ros.map Roo.r) its k).length := h1;rw [List.length_map] at h2;rw [h2]; unfold ndsK; simp
theorem po_len {N : Net} {ros : List Roo} {its : List Itm} {k : Nat} (h : ersN N = netK ros its k) : N.po.length = ros.length := by
  have h1 := congrArg (fun N => N.po.length) h;have h2 : (N.po.map ersP).length = (ros.map (poK ((its.map dltS).take k))).length := h1
  rwa [List.length_map,List.length_map] at h2
theorem T_zeroX {N : Net} {ros : List Roo} {its : List Itm} {k : Nat} {x : Itm} {nh : Hd} (hX : its.getD k itm0 = x) (h : ersN N = netK ros its k) : ersN { N with nd := N.nd ++ [⟨x,none,[],none,[],true⟩],nh := nh } = netT ros its k 0 := by
  subst hX;rw [netT_zero, ← h];unfold ersN;dsimp only;rw [List.map_append]; rfl
theorem T_skipX {ros : List Roo} {its : List Itm} {k t : Nat} {X : Itm} (hX : its.getD k itm0 = X) (ht : t < (dltS X).length) (hr : ((dltS X)[t]).1 ∉ ros.map Roo.r) : netT ros its k (t + 1) = netT ros its k t := by
  subst hX; exact netT_skip ht hr
theorem T_stepX {ro : List Roo} {its : List Itm} {k t j : Nat} {X : Itm} (hX : its.getD k itm0 = X) (hro : (ro.map Roo.r).Nodup) (hk : k < its.length) (ht : t < (dltS X).length) {N N' : Net} (h : ersN N = netT ro its k t) (hr : (ro.map Roo.r).idxOf ((dltS X)[t]).1 = j) (hm : ((dltS X)[t]).1 ∈ ro.map Roo.r) {x x' : Nd} {y y' : Po} (h1 : N.nd[k]? = some x) (h2 : N.po[j]? = some y)
    (e1 : N'.nd = N.nd.set k x') (ex : ers x' = ers (jnX x j y.q.length ((dltS X)[t]).2)) (e2 : N'.po = N.po.set j y') (ey : ersP y' = ersP (jnY y k ((dltS X)[t]).2)) : ersN N' = netT ro its k (t + 1) := by
  subst hX; exact T_step hro hk ht h hr hm h1 h2 e1 ex e2 ey
theorem T_nd {N : Net} {ros : List Roo} {its : List Itm} {k t : Nat} (h : ersN N = netT ros its k t) : N.nd.length = k + 1 := by
  have h1 := congrArg (fun N => N.nd.length) h;have h2 : (N.nd.map ers).length = (ndsK (ros.map Roo.r) its k ++ [_]).length := h1;rw [List.length_map,List.length_append] at h2;rw [h2]; unfold ndsK; simp
theorem T_po {N : Net} {ros : List Roo} {its : List Itm} {k t : Nat} (h : ersN N = netT ros its k t) : N.po.length = ros.length := by
  have h1 := congrArg (fun N => N.po.length) h;have h2 : (N.po.map ersP).length = (ros.map _).length := h1
  rwa [List.length_map,List.length_map] at h2
theorem T_lastX {ros : List Roo} {its : List Itm} {k : Nat} {X : Itm} (hX : its.getD k itm0 = X) (hk : k < its.length) : netT ros its k (dltS X).length = netK ros its (k + 1) := by
  subst hX; exact netT_last hk
theorem ids_of {N : Net} {ros : List Roo} {its : List Itm} (h : ersN N = netK ros its its.length) : idsN N = its.map Itm.id := by
  have h1 : N.nd.map ers = ndsK (ros.map Roo.r) its its.length := congrArg (fun N => N.nd) h;have h2 : idsN N = (N.nd.map ers).map fun x => x.it.id := by unfold idsN; rw [List.map_map]; rfl
  rw [h2,h1];unfold ndsK;rw [List.map_map]
  apply List.ext_getElem (by simp)
  intro i a b;simp only [List.getElem_map,List.getElem_range,Function.comp];show (its.getD i itm0).id = _;rw [ZaH itm0 (by simpa using b)]
theorem fin_step {po po' : List Po} {j : Nat} {y : Po} (hj : j < po.length) (h : po' = (po.take j).map finP ++ po.drop j) (hy : po'[j]? = some y) : po'.set j (finP y) = (po.take (j + 1)).map finP ++ po.drop (j + 1) := by
  subst h;have hl : ((po.take j).map finP).length = j := by rw [List.length_map,List.length_take]; omega
  rw [List.getElem?_append_right (by omega),hl,Nat.sub_self,List.drop_eq_getElem_cons hj] at hy;have e : y = po[j] := (Option.some.inj hy).symm;rw [List.set_append_right _ _ (by omega),hl,Nat.sub_self,List.drop_eq_getElem_cons hj,List.set_cons_zero,tk_map hj,e,List.append_assoc]; rfl
theorem net_fin {p : Prb} {its : List Itm} {ros : List Roo} (h1 : ordP p = its) (h2 : rosS p = ros) : netP p = ⟨(netK ros its its.length).nd,(netK ros its its.length).po.map finP,none,none⟩ := by
  unfold netP; rw [h1,h2]
theorem net_fin2 {N N5 : Net} {ros : List Roo} {its : List Itm} (hT : ersN N = netK ros its its.length) (h1 : N5.nd = N.nd) (h2 : N5.po = N.po.map finP) : ersN N5 = ⟨(netK ros its its.length).nd,(netK ros its its.length).po.map finP,none,none⟩ := by
  rw [← hT];unfold ersN;dsimp only;rw [h1,h2,List.map_map,List.map_map]
  rfl
set_option maxHeartbeats 2000000 in
theorem build_ok (p : Prb) (hf : FewP p) (hE : prbE p = 0) : ACalls Tryz.prog 43 [.d (prbD p)] [] fun r H' => ∃ wb mv nb pb N M bs,r = .d (.tup [pD wb 0,intD 0]) ∧ H' = HW mv bs (byL nb (idsN N)) M ∧ Rep wb mv nb pb N M ∧ ersN N = netP p := by
  have hck := pcheck_p p hf.b;rw [hE] at hck;have hrn := roos_nodup hE;have hrl := hf.r;refine ZaB Tryz.func43 rfl rfl Tryz.ntmps43 rfl rfl rfl fun F hF => (Zad (Zab ?_));refine Zaj.go (ZaS 1 rfl rfl rfl rfl rfl rfl rfl) (goAs rfl rfl (goAs rfl rfl (Zac (Zad (Zad (Zab (Zaa.go (Zas rfl rfl rw35 rfl rfl rfl) (Zaa.go (Zau (hck) rfl rfl) ?_))))))));refine goAs rfl rfl (Zac (Zad (Zab (goMv rfl rfl (Zaa.go (Zbi rfl rfl rfl) (Zac (Za9 rfl (rfl) (Zap ?_))))))));refine Zad (Zab (Zaj.go (st_makeMap 50 rfl rfl rfl rfl) (o_ghostM 51 50 0 rfl rfl rfl rfl rfl fun mv => (o_toRaw 26 51 0 (.inl rfl) rfl (Zaa.go (Za0 zl108 pl108 rfl rfl rfl) (o_nrm 27 rfl (Zaj.go (ZaS 2 rfl rfl rfl rfl rfl rfl rfl) (goAs rfl rfl ?_))))))));refine Zac (Zad (a_multi 40 rfl rfl rfl (a_absorb 5 2 40 (ds := [hdr none 0,hdr none 0,rawD (.map (some mv))]) hF rfl rfl rfl rfl rfl rfl rfl rfl rfl rfl rfl (fun _ => rfl) fun wb hwb => (Zab (Zaj.go (st_makeMap 3 rfl rfl rfl rfl) (goAs rfl rfl (Zac (Zad ?_))))))));refine Zad (Zab (Zaa.go (Zag rfl fi35_0 rfl rfl rfl) (Zaa.go (Zah rfl rfl rfl on32 rfl) (Zaa.go (ZaA rfl Tryz.underlying32 rfl) (goMv rfl rfl (Zac (Zam (ZaK (α := Nat × (Nat → Nat) × Hd × MF) (fun q => ⟨142,[(1,(.ptr 1 0 0)),(5,(.d (pD wb 0))),(6,(.map 3 0)),(31,(.d (.sl none (p.ro.map rooD)))),(32,(.d (intD (p.ro.length : Int)))),(33,(.d (intD (q.1 : Int))))],[(1,[.blk 35 [.d (.sl none (p.ro.map rooD)), .d (.sl none (p.it.map itmD))]]),(3,[mapC rscD rawD (tab rscZ q.2.1 ((p.ro.take q.1).map Roo.r))]),(40,[.multi q.2.2.2]),(50,[mapC intD rawD (byL (fun _ => 0) [])]),(51,[.addr 50 0 (.map (some mv))])]⟩) (fun q => q.1 ≤ p.ro.length ∧ Rep wb mv (fun _ => 0) q.2.1 ⟨[],(p.ro.take q.1).map po1,none,q.2.2.1⟩ q.2.2.2 ∧ (q.2.2.1 ≠ none → 0 < q.1)) (fun q => p.ro.length - q.1) ((0,(fun _ => 0),none,Za2 (fun _ => none) wb (nwM none 0 none 0 mv))) (⟨Nat.zero_le _,rep0 _ _ _ _ (show Za2 (fun _ => none) wb (nwM none 0 none 0 mv) wb = _ from Zbt _ _ _),fun h => absurd rfl h⟩) (Zaq hF [1,3,40,50,51] rfl rfl ⟨rfl,rfl,rfl,rfl,rfl,rfl,trivial⟩) ?_))))))));rintro ⟨k,pb,mh,M⟩ ⟨hk0,hR,hmh⟩;dsimp only at hk0 hR hmh ⊢;refine Zad (Zab (Zaa.go (ZaI rfl rfl rfl) (Zac (Zad (ZaF rfl (fun h34 => ?_) (fun h34 => ?_))))))
  · have hk1 : k < p.ro.length := ZaN h34;refine Zap (Zad (Zam (Zad ?_)));have hpl : ((p.ro.take k).map po1).length = k := by rw [List.length_map,List.length_take]; omega
    have hpr : ((p.ro.take k).map Roo.r).length = k := by rw [List.length_map,List.length_take]; omega
    refine Zab (Zaa.go (Zat (k) rfl rfl (rfl) (getm hk1) Tryz.underlying32 rfl sz82 rfl) (Zaa.go (ZaC rfl rfl rw82 rfl) ?_));refine Zaj.go (ZaQ 4 zl82 rfl rfl rfl rfl) (Zaj.go (Zaz rfl rfl rfl rfl rfl rfl rfl sz82) (Zac (Zad (Zab (goMv rfl rfl (Zaa.go (Zag rfl fi82_0 rfl rfl rfl) (Zaa.go (Zas rfl rfl rw51 rfl rfl rfl) (Zaa.go (Zag rfl fi82_0 rfl rfl rfl) ?_))))))));refine Zaa.go (Zas rfl rfl rw51 rfl rfl rfl) (Zaa.go (Zag rfl fi82_1 rfl rfl rfl) (Zaa.go (Zah rfl rfl rfl on2 rfl) (Zaa.go (Za0 zl121 pl121 rfl rfl rfl) (o_nrm 44 rfl (Zaj.go (ZaS 5 rfl rfl rfl rfl rfl rfl rfl) (o_absorb 45 5 40 (ds := poC (po1 p.ro[k])) hF rfl rfl rfl rfl rfl rfl rfl rfl rfl rfl rfl (fun _ => rfl) fun bn hbn => (Zaj.go (st_mapU (tab rscZ pb ((p.ro.take k).map Roo.r)) (p.ro[k].r) (pV bn 0) rfl rfl rfl mt151 kt51 rfl rfl) (Zac ?_))))))));have hrnk : p.ro[k].r ∉ (p.ro.take k).map Roo.r := nod_take hrn hk1;rw [tab_put hrnk,hpr, ← tk_map hk1];have hget : mget (tab rscZ (ext pb k bn) ((p.ro.take (k + 1)).map Roo.r)) p.ro[k].r (.pointer none) = pV bn 0 := by rw [tab_get (i := k) (nod_tk hrn (k + 1)) (by rw [List.length_map,List.length_take]; omega) (by rw [List.getElem_map,List.getElem_take]),ext_at]
    have hR1 := hR.fresh (m := poM (po1 p.ro[k])) hbn;have hpb : ((List.range k).map pb).length = k := by simp
    have hwb1 : Za2 M bn (poM (po1 p.ro[k])) wb = some (nwM none 0 mh ((List.range k).map pb).length mv) := by rw [hpb]; have h : _ = some (nwM none 0 mh ((p.ro.take k).map po1).length mv) := hR1.w; rw [hpl] at h; exact h
    have hmr : rowAt (Za2 M bn (poM (po1 p.ro[k]))) mh ppT 1 (((List.range k).map pb).map ptrD) := by have h : rowAt _ mh ppT 1 ((List.range ((p.ro.take k).map po1).length).map fun j => ptrD (pb j)) := hR1.rs.1 .m; rw [hpl] at h; rw [List.map_map]; exact h
    refine ZaT [[],[],[1],[1,2],[1,2,3],[],[],[6],[5,6,7],[5,6,7,8],[1,2,3,4,5,6,7,8,9],[0,1,2,3,4,5,6,7,8,9,10],[0,1,2,3,4,5,6,7,8,9,10,11],[0,1,2,3,4,5,6,7,8,9,10,11,12]] mixed rfl (dws (Zaf [5] [] rfl rfl (fun _ => Zae (Zar rfl rfl)) (Zaf [5] [] rfl rfl (fun _ => Zae (Zar rfl rfl)) (Zaf [47] [] rfl rfl (fun _ => Zae (Zax rfl rfl)) (Zaf [48] [] rfl rfl (fun _ => Zae (Zav rfl fi108_1 rfl rfl rfl)) (Zaf [49] [40] rfl rfl (fun _ => Zae (ZaV (f := 40) rfl rfl (hwb1) rfl on105 rfl)) (Zaf [6] [] rfl rfl (fun _ => Zae (Zar rfl rfl)) (Zaf [8] [] rfl rfl (fun _ => Zae (Zag rfl fi82_0 rfl rfl rfl)) ?_))))))));refine Zaf [52] [4] rfl rfl (fun _ => Zae (Zas rfl rfl rw51 rfl rfl rfl)) (Zaf [51,53] [3] rfl rfl (fun _ => Zae (Zbw (tab rscZ (ext pb k bn) ((p.ro.take (k + 1)).map Roo.r)) p.ro[k].r (.pointer none) (pV bn 0) rfl rfl rfl mt151 kt51 za117 hget rfl)) (Zbf [54] [6] [(55,_)] rfl rfl (fun _ => Za5 (ZaD 6 sl105 rfl rfl rfl rfl rfl rfl rfl rfl)) (.inr ⟨55,_,rfl,rfl,rfl,rfl,rfl⟩) rfl rfl rfl rfl rfl (Zbf [50,55] [61,40,6] [(56,_)] rfl rfl (fun _ => Za5 (st_appH 50 61 40 hmr rfl rfl (by simp) rfl rfl rfl rfl rfl (Zbc (emb := ptrD) ((List.range k).map pb) [bn] rfl rfl rfl rfl rfl rfl rfl rfl sl105 (by simp; omega) rfl rfl rfl rfl))) (.inr ⟨56,_,rfl,rfl,rfl,rfl,rfl⟩) rfl rfl rfl rfl rfl (dwc 11 rfl rfl rfl (dw1 12 rfl rfl (o_absorbR 56 61 40 hF rfl rfl rfl (by simp) (by simp) rfl rfl rfl rfl rfl rfl rfl (fun _ _ => rfl) fun b1 c1 hb1 hc1 => (Zaa.go (Zax rfl rfl) (Zac ⟨rfl, ?_⟩))))))));refine dw1 13 rfl rfl (Zaa.go (Zav rfl fi108_1 rfl rfl rfl) (Zac ⟨rfl, ?_⟩));refine dw1 14 rfl rfl (Zaj.go (Zb3 (f := 40) rfl rfl rfl rfl (hR1.keepM hb1 hwb1) ((by show _ < 3; omega)) rfl sz105) (Zac ⟨rfl, ?_⟩));refine dwe ?_;have e1 : ((List.range ((p.ro.take k).map po1).length).map (fun j => ptrD (pb j)) ++ [ptrD bn]) = ((List.range k).map pb ++ [bn]).map ptrD := by rw [hpl,List.map_append,List.map_map]; rfl
    have e2 : ((List.range k).map pb ++ [bn]).length = ((p.ro.take k).map po1).length + 1 := by simp; omega
    have hR2 := hR1.addM (y := po1 p.ro[k]) (bn := bn) rfl rfl (Zbt _ _ _) (fun j hj e => by have h1 := hR.p j _ (List.getElem?_eq_getElem hj); rw [e,hbn] at h1; cases h1) hb1 (cap := c1) (by have h := hc1; simp at h ⊢; omega);dsimp only at hR2;rw [e1, ← e2, ← tk_map hk1,hpl] at hR2;refine Zab (Zaa.go (Zay rfl rfl (IntWalk.i64_in _ (by omega)) rfl) (goMv rfl rfl (Zac ?_)));exact ⟨(k + 1,ext pb k bn,some (b1,c1),_),⟨by show k + 1 ≤ _; omega,hR2,fun _ => Nat.succ_pos _⟩,by show p.ro.length - (k + 1) < p.ro.length - k; omega,Zaq hF [1,3,40,50,51] rfl (rfl) ⟨rfl,rfl,rfl,rfl,rfl,rfl,trivial⟩⟩
  · refine ZaL (Zad ?_);have hkk : k = p.ro.length := by have h := h34; omega
    subst hkk;rw [List.take_length] at hR ⊢;have hwb2 : M wb = some (nwM none 0 mh p.ro.length mv) := by have h : _ = some (nwM none 0 mh (p.ro.map po1).length mv) := hR.w; rw [List.length_map] at h; exact h
    have hR3 := sort_rep hR;have hmr : rowAt M mh ppT 1 ((List.range p.ro.length).map fun j => ptrD (pb j)) := by have h : rowAt _ mh ppT 1 ((List.range (p.ro.map po1).length).map fun j => ptrD (pb j)) := hR.rs.1 .m; rw [List.length_map] at h; exact h
    refine Zab (goMv rfl rfl (Zaa.go (Zax rfl rfl) (Zaa.go (Zav rfl fi108_1 rfl rfl rfl) (Zaa.go (ZaV (f := 40) rfl rfl (hwb2) rfl on105 rfl) (Zaj.go (st_sortH laysPo Tryz.func74 rfl rfl (f := 40) (bl := pb) (px := fun j => poC (po1 (p.ro.getD j roo0))) (tx := fun _ => 121) (cfI (p.ro.map Roo.r)) (ZbR _).swo (List.range p.ro.length) (sortX (p.ro.map Roo.r)) (by simp; omega) (sort_cmp p) (fun ys h1 h2 => sortX_one hrn (by rw [List.length_map]; exact h1) h2) rfl rfl (sort_px hR) (fun _ _ => poC_one _) rfl rfl fa_raw hmr rfl (by simp) (fun h => by have h1 := hmh h; intro h2; have h3 := congrArg List.length h2; rw [List.length_range,List.length_nil] at h3; omega) rfl rfl) (Zac (Zad (Zad ?_))))))))
    obtain ⟨its,hits⟩ : ∃ its,ordP p = its := ⟨_,rfl⟩
    have hoi := order_ids_p p hf.b;rw [hits] at hoi
    obtain ⟨ros,hros⟩ : ∃ ros,rosS p = ros := ⟨_,rfl⟩
    have hitl : its.length ≤ 30 := by rw [← hits]; exact Nat.le_trans (ordP_len p) hf.i
    have hrol : ros.length ≤ 100 := by rw [← hros]; unfold rosS; rw [List.length_map,(ZbI _).length_eq,List.length_range,List.length_map]; exact hrl
    have hitx : ∀ x ∈ its,FewI x := fun x hx => hf.x x (ordP_mem (p := p) (by rw [hits]; exact hx));have hin : (its.map Itm.id).Nodup := by rw [← hits]; exact ord_ids hE
    have hroN : (ros.map Roo.r).Nodup := by rw [← hros]; exact rosS_nodup hE
    have hpin := fun (r : Rsc) (h : r ∈ ros.map Roo.r) => pm_in (z := .pointer none) hrn (ZbI (p.ro.map Roo.r)) (f := pb) (r := r) (by rw [← rosS_r,hros]; exact h);have hpout := fun (r : Rsc) (h : r ∉ ros.map Roo.r) => pm_out (z := .pointer none) (ZbI (p.ro.map Roo.r)) (f := pb) (r := r) (by rw [← rosS_r,hros]; exact h);rw [← rosS_r,hros] at hpin;rw [hros] at hR3
    generalize sortM M mh ppT ((sortX (p.ro.map Roo.r)).map fun x => pD (pb x) 0) = M2 at hR3 ⊢
    obtain ⟨pb2,hpb2⟩ : ∃ f : Nat → Nat,(fun k => pb ((sortX (p.ro.map Roo.r)).getD k 0)) = f := ⟨_,rfl⟩
    rw [hpb2] at hR3;have hpin2 : ∀ r,r ∈ ros.map Roo.r → mget (tab rscZ pb (p.ro.map Roo.r)) r (.pointer none) = pV (pb2 ((ros.map Roo.r).idxOf r)) 0 := fun r h => by rw [hpin r h, ← hpb2]
    obtain ⟨pm,hpm⟩ : ∃ m,tab rscZ pb (p.ro.map Roo.r) = m := ⟨_,rfl⟩
    rw [hpm] at hpin2 hpout ⊢;refine Zab (Zaa.go (Zas rfl rfl rw35 rfl rfl rfl) (Zaa.go (Zau (hoi) rfl rfl) (Zaa.go (ZaA rfl Tryz.underlying28 rfl) (goMv rfl rfl (Zac (Zam (ZaK (α := Nat × Nat × (Nat → Nat) × Net × MF) (fun q => ⟨142,[(1,(.ptr 1 0 0)),(5,(.d (pD q.2.1 0))),(6,(.map 3 0)),(66,(.d (.sl none ((its.map Itm.id).map intD)))),(67,(.d (intD ((its.map Itm.id).length : Int)))),(68,(.d (intD (q.1 : Int))))],[(1,[.blk 35 [.d (.sl none (p.ro.map rooD)), .d (.sl none (p.it.map itmD))]]),(3,[mapC rscD rawD pm]),(40,[.multi q.2.2.2.2]),(50,[mapC intD rawD (byL q.2.2.1 ((its.take q.1).map Itm.id))]),(51,[.addr 50 0 (.map (some mv))])]⟩) (fun q => q.1 ≤ its.length ∧ Rep q.2.1 mv q.2.2.1 pb2 q.2.2.2.1 q.2.2.2.2 ∧ ersN q.2.2.2.1 = netK ros its q.1) (fun q => its.length - q.1) ((0,wb,(fun _ => 0),⟨[],ros.map po1,none,mh⟩,M2)) (⟨Nat.zero_le _,hR3,net_start ros its⟩) (Zaq hF [1,3,40,50,51] rfl rfl ⟨rfl,rfl,rfl,rfl,rfl,rfl,trivial⟩) ?_)))))));rintro ⟨k,wb,nb,N,M⟩ ⟨hk0,hR,hT⟩;dsimp only at hk0 hR hT ⊢;refine Zad (Zab (Zaa.go (ZaI rfl rfl rfl) (Zac (Zad (ZaF rfl (fun h69 => ?_) (fun h69 => ?_))))))
    · have hk1 : k < its.length := by have h := h69; rw [List.length_map] at h; exact ZaN h
      refine Zap (Zad (Zam (Zad ?_)))
      obtain ⟨X,hX⟩ : ∃ X,its.getD k itm0 = X := ⟨_,rfl⟩
      have hXk : its[k] = X := by rw [← hX,ZaH itm0 hk1]
      have hidk : X.id ∉ (its.take k).map Itm.id := by rw [← hXk]; exact nod_takeI hin hk1
      have hitk : itemF its X.id = (X,true) := by have h := itemF_at hk1 (nod_takeI hin hk1) rfl; rw [hXk] at h; exact h
      have hip := item_p p X.id hf.b;rw [hits,hitk] at hip;have hk70 : ((its.map Itm.id).map intD)[k]? = some (intD X.id) := by rw [List.getElem?_map,List.getElem?_map,List.getElem?_eq_getElem hk1,hXk]; rfl
      refine Zab (Zaa.go (Zat (k) rfl rfl (rfl) (hk70) Tryz.underlying28 rfl sz3 rfl) (Zaa.go (ZaE rfl rfl on3 rfl) (goAs rfl rfl (Zac (Zad (Zab (Zaa.go (Zas rfl rfl rw35 rfl rfl rfl) (goMv rfl rfl ?_))))))));refine Zaa.go (Zau (hip) rfl rfl) (goMv rfl rfl (Zaa.go (ZaR rfl rfl rfl) (Zaa.go (ZaR rfl rfl rfl) (Zaj.go (ZaQ 7 zl91 rfl rfl rfl rfl) (Zaj.go (Zaz rfl rfl rfl rfl rfl rfl rfl sz91) (goAs rfl rfl (Zac (Zad ?_))))))));refine Zab (Zaa.go (Zas rfl rfl rw91 rfl rfl rfl) (Zaa.go (Za0 zl112 pl112 rfl rfl rfl) (o_nrm 79 rfl (Zaj.go (ZaS 8 rfl rfl rfl rfl rfl rfl rfl) (goAs rfl rfl (Zac (Zad (a_absorb 13 8 40 (ds := ndC ⟨X,none,[],none,[],true⟩) hF rfl rfl rfl rfl rfl rfl rfl rfl rfl rfl rfl (fun _ => rfl) fun bn hbn => ?_))))))));have hNk : N.nd.length = k := nd_len hT;have hR1 := hR.fresh (m := ndM ⟨X,none,[],none,[],true⟩) hbn;have hnb : ((List.range k).map nb).length = k := by simp
      have hwb1 : Za2 M bn (ndM ⟨X,none,[],none,[],true⟩) wb = some (nwM N.nh ((List.range k).map nb).length N.mh N.po.length mv) := by rw [hnb]; have h : _ = some (nwM N.nh N.nd.length N.mh N.po.length mv) := hR1.w; rw [hNk] at h; exact h
      have hnr : rowAt (mdel_ (Za2 M bn (ndM ⟨X,none,[],none,[],true⟩)) wb) N.nh pnT 1 (((List.range k).map nb).map ptrD) := by have h : rowAt _ N.nh pnT 1 ((List.range N.nd.length).map fun j => ptrD (nb j)) := (hR1.rs.del hR1.w).1 .n; rw [hNk] at h; rw [List.map_map]; exact h
      refine a_split 5 20 40 rfl rfl rfl hwb1 rfl rfl rfl rfl (ZaT [[],[],[1],[1,2],[1,2,3],[],[],[6],[6,7],[6,7,8],[],[10],[6,7,8,9,10,11],[],[0,1,2,3,4,6,7,8,9,10,11,12],[0,1,2,3,4,6,7,8,9,10,11,12,14],[0,1,2,3,4,6,7,8,9,10,11,12,14,15],[0,1,2,3,4,5,6,7,8,9,10,11,12,14,15,16],[0,1,2,3,4,5,6,7,8,9,10,11,12,14,15,16,17],[0,1,2,3,4,5,6,7,8,9,10,11,12,13,14,15,16,17,18]] mixed rfl (dws (Zaf [5] [] rfl rfl (fun _ => Zae (Zar rfl rfl)) (Zaf [5] [] rfl rfl (fun _ => Zae (Zar rfl rfl)) (Zaf [82] [] rfl rfl (fun _ => Zae (ZbF rfl rfl)) (Zaf [83] [] rfl rfl (fun _ => Zae (Zag rfl fi108_2 rfl rfl rfl)) (Zaf [84] [20,51] rfl rfl (fun _ => Zae (st_loadMp 51 0 rfl rfl rfl rfl on106 rfl)) ?_)))))));refine Zaf [10] [] rfl rfl (fun _ => Zae (Zar rfl rfl)) (Zaf [5] [] rfl rfl (fun _ => Zae (Zar rfl rfl)) (Zaf [87] [] rfl rfl (fun _ => Zae (ZbF rfl rfl)) (Zaf [88] [] rfl rfl (fun _ => Zae (Zag rfl ZbX rfl rfl rfl)) (Zaf [89] [20] rfl rfl (fun _ => Zae (Zah rfl rfl rfl on104 rfl)) (Zaf [13] [] rfl rfl (fun _ => Zae (Zar rfl rfl)) (Zbf [91] [9] [(92,_)] rfl rfl (fun _ => Za5 (ZaD 9 sl104 rfl rfl rfl rfl rfl rfl rfl rfl)) (.inr ⟨92,_,rfl,rfl,rfl,rfl,rfl⟩) rfl rfl rfl rfl rfl (Zbf [90,92] [60,40,9] [(93,_)] rfl rfl (fun _ => Za5 (st_appH 90 60 40 hnr rfl rfl (by simp) rfl rfl rfl rfl rfl (Zbc (emb := ptrD) ((List.range k).map nb) [bn] rfl rfl rfl rfl rfl rfl rfl rfl sl104 (by simp; omega) rfl rfl rfl rfl))) (.inr ⟨93,_,rfl,rfl,rfl,rfl,rfl⟩) rfl rfl rfl rfl rfl (Zaf [13] [] rfl rfl (fun _ => Zae (Zar rfl rfl)) ?_))))))));refine Zaf [81] [] rfl rfl (fun _ => Zae (ZbF rfl rfl)) (Zaf [95] [] rfl rfl (fun _ => Zae (Zag rfl ZbX rfl rfl rfl)) (Zbf [96,93] [20,60] [] rfl rfl (fun _ => Za5 (Zaz rfl rfl rfl rfl rfl rfl rfl sz104)) (.inl ⟨rfl,rfl⟩) rfl rfl rfl rfl rfl (Zbf [85,86] [50] [(97,_)] rfl rfl (fun _ => Za5 (st_mapE (byL nb ((its.take k).map Itm.id)) (X.id) ((.pointer none)) rfl rfl rfl mt106 kt3 za103 rfl rfl)) (.inr ⟨97,_,rfl,rfl,rfl,rfl,rfl⟩) rfl rfl rfl rfl rfl (Zaf [97] [] rfl rfl (fun _ => Zae (Za6 rfl rfl rfl)) (dwc 19 rfl rfl rfl (dw1 20 rfl rfl (Zaj.go (st_entS (byL nb ((its.take k).map Itm.id)) (X.id) ((.pointer none)) (pV bn 0) rfl rfl rfl kt3 rfl rfl) (Zac ⟨rfl, ?_⟩))))))));refine dwe (Zad (a_absorbRC 93 60 40 20 0 hF rfl rfl rfl (by simp) (by simp) rfl rfl (fun _ _ => rfl) (fun _ _ => rfl) rfl (fun _ _ => rfl) (fun _ _ => rfl) rfl rfl (fun _ _ => rfl) (fun _ _ => rfl) (fun _ _ => rfl) (fun _ _ => rfl) fun b1 c1 hb1 hc1 => (a_absorb 5 20 40 (ds := [hdr (some (b1,c1)) ((List.range k).map nb ++ [bn]).length,hdr N.mh N.po.length,rawD (.map (some mv))]) hF rfl rfl rfl rfl rfl rfl rfl rfl rfl rfl rfl (fun _ => rfl) fun wb2 hwb2 => ?_)));have hby : mput (byL nb ((its.take k).map Itm.id)) X.id (pV bn 0) = byL (ext nb k bn) ((its.take (k + 1)).map Itm.id) := by have h := tab_put (d := (0 : Int)) (f := nb) (b := bn) hidk; rw [show ((its.take k).map Itm.id).length = k by rw [List.length_map,List.length_take]; omega, ← hXk, ← tk_map hk1] at h; rw [← hXk]; exact h
      rw [hby];have e1 : ((List.range N.nd.length).map (fun j => ptrD (nb j)) ++ [ptrD bn]) = ((List.range k).map nb ++ [bn]).map ptrD := by rw [hNk,List.map_append,List.map_map]; rfl
      have e2 : ((List.range k).map nb ++ [bn]).length = N.nd.length + 1 := by simp; omega
      have hR2 := hR1.addN2 (x := ⟨X,none,[],none,[],true⟩) (bn := bn) rfl rfl rfl rfl (Zbt _ _ _) (fun j hj e => by have h1 := hR.n j _ (List.getElem?_eq_getElem hj); rw [e,hbn] at h1; cases h1) hb1 (cap := c1) (by have h := hc1; simp at h; omega) (wb' := wb2) (by rw [e1]; exact hwb2);rw [e1, ← e2,hNk] at hR2;have hT0 := T_zeroX (x := X) (nh := some (b1,c1)) hX hT;have hfk : FewI X := hitx X (by rw [← hXk]; exact List.getElem_mem hk1);have hdl := dlt_len hfk;refine Zab (Zaa.go (Zas rfl rfl rw91 rfl rfl rfl) (Zaa.go (Zau (deltas_p X (by have h := hfk.1; omega) (by have h := hfk.2.1; omega) (by have h := hfk.2.2; omega)) rfl rfl) (goMv rfl rfl (Zaa.go (ZaR rfl rfl rfl) (Zaa.go (ZaR rfl rfl rfl) (goAs rfl rfl (goAs rfl rfl ?_)))))));refine Zac (Zad (Zab (goMv rfl rfl (Zaa.go (ZaA rfl Tryz.underlying155 rfl) (goMv rfl rfl (Zac (Zam (ZaK (α := Nat × Net × MF) (fun r => ⟨142,[(1,(.ptr 1 0 0)),(5,(.d (pD wb2 0))),(6,(.map 3 0)),(66,(.d (.sl none ((its.map Itm.id).map intD)))),(67,(.d (intD ((its.map Itm.id).length : Int)))),(68,(.d (intD (k : Int)))),(13,(.d (pD bn 0))),(104,(.d (.sl none ((dltS X).map dltD)))),(105,(.d (intD ((dltS X).length : Int)))),(106,(.d (intD (r.1 : Int))))],[(1,[.blk 35 [.d (.sl none (p.ro.map rooD)), .d (.sl none (p.it.map itmD))]]),(3,[mapC rscD rawD pm]),(40,[.multi r.2.2]),(50,[mapC intD rawD (byL (ext nb k bn) ((its.take (k + 1)).map Itm.id))]),(51,[.addr 50 0 (.map (some mv))])]⟩) (fun r => r.1 ≤ (dltS X).length ∧ Rep wb2 mv (ext nb k bn) pb2 r.2.1 r.2.2 ∧ ersN r.2.1 = netT ros its k r.1) (fun r => (dltS X).length - r.1) ((0,_,_)) (⟨Nat.zero_le _,hR2,hT0⟩) (Zaq hF [1,3,40,50,51] rfl rfl ⟨rfl,rfl,rfl,rfl,rfl,rfl,rfl,rfl,rfl,rfl,trivial⟩) ?_))))))));rintro ⟨t,N3,M3⟩ ⟨ht0,hR4,hT3⟩;dsimp only at ht0 hR4 hT3 ⊢;refine Zad (Zab (Zaa.go (ZaI rfl rfl rfl) (Zac (Zad (ZaF rfl (fun h107 => ?_) (fun h107 => ?_))))))
      · have ht1 : t < (dltS X).length := ZaN h107;refine Zap (Zad (Zam (Zad (Zab (Zaa.go (Zat (t) rfl rfl (rfl) (getm ht1) Tryz.underlying155 rfl sz158 rfl) ?_)))));refine Zaa.go (ZaC rfl rfl rw158 rfl) (Zaj.go (ZaQ 10 zl158 rfl rfl rfl rfl) (Zaj.go (Zaz rfl rfl rfl rfl rfl rfl rfl sz158) (Zac (Zad (Zab (goMv rfl rfl (Zaa.go (Zag rfl fi158_0 rfl rfl rfl) (Zaa.go (Zas rfl rfl rw51 rfl rfl rfl) ?_))))))))
        by_cases hm : ((dltS X)[t]).1 ∈ ros.map Roo.r
        · refine Zaa.go (Zbw pm ((dltS X)[t]).1 (.pointer none) (pV (pb2 ((ros.map Roo.r).idxOf ((dltS X)[t]).1)) 0) rfl rfl rfl mt151 kt51 za117 (hpin2 _ hm) rfl) (goAs rfl rfl (Zac (Zad (Zab (goMv rfl rfl (Zaa.go (st_neqPr Tryz.underlying117 rfl rfl) (Zac (ZaU rfl (rfl) ?_))))))));have hnl3 : N3.nd.length = k + 1 := T_nd hT3;have hpl3 : N3.po.length = ros.length := T_po hT3
          obtain ⟨x,hx⟩ : ∃ x,N3.nd[k]? = some x := ⟨_,List.getElem?_eq_getElem (by omega)⟩
          have hjl : (ros.map Roo.r).idxOf ((dltS X)[t]).1 < N3.po.length := by rw [hpl3]; have h := List.idxOf_lt_length_of_mem hm; rw [List.length_map] at h; exact h
          obtain ⟨y,hy⟩ : ∃ y,N3.po[(ros.map Roo.r).idxOf ((dltS X)[t]).1]? = some y := ⟨_,List.getElem?_eq_getElem hjl⟩
          have hbd := T_bounds hitl hitx hk1 hT3 hx hy;have hda := dlt_bnd X _ (List.getElem_mem ht1);have hj := join_c hR4 hx hy ((dltS X)[t]).2 ⟨by omega,by omega⟩ hbd.1 hbd.2.1 hbd.2.2.1 hbd.2.2.2;rw [ext_at] at hj;refine Zab (goMv rfl rfl (goMv rfl rfl (Zaa.go (Zag rfl fi158_1 rfl rfl rfl) (Zaa.go (Zah rfl rfl rfl on2 rfl) ?_))));refine o_step (st_callX hj rfl [40] ⟨rfl,trivial⟩ rfl rfl rfl rfl (fun r H' ⟨e1,N',M',e2,_⟩ => by subst e1 e2; exact ⟨rfl,rfl,rfl⟩) rfl) rfl ?_; rintro _ ⟨r,H',⟨rfl,N4,M4,rfl,hR5,hnh4,hmh4,⟨x',hx4,ex4⟩,y',hy4,ey4⟩,rfl⟩;refine Zac (Zab (Zaa.go (Zay rfl rfl (IntWalk.i64_in _ (by omega)) rfl) (goMv rfl rfl (Zac ?_))));exact ⟨(t + 1,N4,M4),⟨by show t + 1 ≤ _; omega,hR5,T_stepX hX hroN hk1 ht1 hT3 rfl hm hx hy hx4 ex4 hy4 ey4⟩,by show (dltS X).length - (t + 1) < (dltS X).length - t; omega,Zaq hF [1,3,40,50,51] rfl (rfl) ⟨rfl,rfl,rfl,rfl,rfl,rfl,rfl,rfl,rfl,rfl,trivial⟩⟩
        · refine Zaa.go (Zbw pm ((dltS X)[t]).1 (.pointer none) (.pointer none) rfl rfl rfl mt151 kt51 za117 (hpout _ hm) rfl) (goAs rfl rfl (Zac (Zad (Zab ?_))));refine goMv rfl rfl (Zaa.go (st_neqPr Tryz.underlying117 rfl rfl) (Zac (Za9 rfl (rfl) (Zap (Zab (Zaa.go (Zay rfl rfl (IntWalk.i64_in _ (by omega)) rfl) (goMv rfl rfl (Zac ?_))))))));exact ⟨(t + 1,N3,M3),⟨by show t + 1 ≤ _; omega,hR4,by show ersN N3 = netT ros its k (t + 1); rw [T_skipX hX ht1 hm]; exact hT3⟩,by show (dltS X).length - (t + 1) < (dltS X).length - t; omega,Zaq hF [1,3,40,50,51] rfl (rfl) ⟨rfl,rfl,rfl,rfl,rfl,rfl,rfl,rfl,rfl,rfl,trivial⟩⟩
      · refine ZaL ?_;have hte : t = (dltS X).length := by have h := h107; omega
        have hT5 : ersN N3 = netK ros its (k + 1) := by rw [← T_lastX hX hk1, ← hte]; exact hT3
        refine Zab (Zaa.go (Zay rfl rfl (IntWalk.i64_in _ (by omega)) rfl) (goMv rfl rfl (Zac ?_)));exact ⟨(k + 1,wb2,ext nb k bn,N3,M3),⟨by show k + 1 ≤ _; omega,hR4,hT5⟩,by show its.length - (k + 1) < its.length - k; omega,Zaq hF [1,3,40,50,51] rfl (rfl) ⟨rfl,rfl,rfl,rfl,rfl,rfl,trivial⟩⟩
    · refine ZaL (Zad (Zad ?_));have hke : k = its.length := by have h := h69; rw [List.length_map] at h; omega
      subst hke;rw [List.take_length];have hwbf := hR.w;have hpzf : N.mh = none → N.po.length = 0 := fun h => by have h1 : rowAt M N.mh ppT 1 ((List.range N.po.length).map fun j => ptrD (pb2 j)) := hR.rs.1 .m; have h2 := Zbs h1 h; rw [List.length_range] at h2; exact h2
      have hids := ids_of hT;have hNl : N.po.length = ros.length := po_len hT;refine Zab ?_;refine goMv rfl rfl (Zaa.go (Zax rfl rfl) (Zaa.go (Zav rfl fi108_1 rfl rfl rfl) (Zaa.go (ZaV (f := 40) rfl rfl (hwbf) rfl on105 rfl) (Zaa.go (ZbV hpzf rfl Tryz.underlying105 rfl) (goMv rfl rfl (Zac (Zam (ZaK (α := Nat × Net × MF) (fun r => ⟨142,[(5,(.d (pD wb 0))),(126,(.d (hdr N.mh N.po.length))),(127,(.d (intD (N.po.length : Int)))),(128,(.d (intD (r.1 : Int))))],[(40,[.multi r.2.2]),(50,[mapC intD rawD (byL nb (its.map Itm.id))]),(51,[.addr 50 0 (.map (some mv))])]⟩) (fun r => r.1 ≤ N.po.length ∧ Rep wb mv nb pb2 r.2.1 r.2.2 ∧ r.2.1.nd = N.nd ∧ r.2.1.mh = N.mh ∧ r.2.1.po = (N.po.take r.1).map finP ++ N.po.drop r.1) (fun r => N.po.length - r.1) ((0,N,M)) (⟨Nat.zero_le _,hR,rfl,rfl,rfl⟩) (Zaq hF [40,50,51] rfl rfl ⟨rfl,rfl,rfl,rfl,trivial⟩) ?_))))))));rintro ⟨j,N5,M5⟩ ⟨hj0,hR5,hnd5,hmh5,hpo5⟩;dsimp only at hj0 hR5 hnd5 hmh5 hpo5 ⊢;refine Zad (Zab (Zaa.go (ZaI rfl rfl rfl) (Zac (Zad (ZaF rfl (fun h129 => ?_) (fun h129 => ?_))))))
      · have hj1 : j < N.po.length := ZaN h129;refine Zap (Zad (Zam (Zad ?_)));have hl5 : N5.po.length = N.po.length := by rw [hpo5]; simp; omega
        have hpr5 : rowAt M5 N.mh ppT 1 ((List.range N.po.length).map fun j => ptrD (pb2 j)) := by have h : rowAt M5 N5.mh ppT 1 ((List.range N5.po.length).map fun j => ptrD (pb2 j)) := hR5.rs.1 .m; rw [hl5,hmh5] at h; exact h
        obtain ⟨rb,rc,hre⟩ := Zbr hpr5 (j := j) (by rw [List.length_range]; exact hj1);have hrow := Zby hpr5 hre
        obtain ⟨y,hy⟩ : ∃ y,N5.po[j]? = some y := ⟨_,List.getElem?_eq_getElem (by omega)⟩
        obtain ⟨hyb,hyq⟩ := hR5.pp j y hy;have hqz := Zbs hyq;refine Zab (Zaa.go (ZbB hre (j) rfl rfl rfl hj1 Tryz.underlying105 sz117 rfl) (Zaa.go (Zca (f := 40) (e := j) (off := 0) rfl (by omega) rfl (hrow) ((by rw [List.getElem?_map,List.getElem?_range hj1]; rfl)) rfl on117 rfl) ?_));refine goAs rfl rfl (Zac (Zab (goMv rfl rfl ?_)));refine goMv rfl rfl (Zaa.go (Zax rfl rfl) (Zaa.go (Zav rfl fi121_3 rfl rfl rfl) (Zaa.go (ZaV (f := 40) rfl rfl (hyb) rfl on104 rfl) (Zaa.go (ZbV hqz rfl Tryz.underlying104 rfl) (Zaa.go (Zax rfl rfl) (Zaa.go (Zav rfl fi121_4 rfl rfl rfl) (Zaj.go (Zb3 (f := 40) rfl rfl rfl rfl (hyb) ((by show _ < 10; omega)) rfl sz3) (Zac ?_))))))));have hR6 := hR5.setPo (y' := finP y) hy rfl rfl;refine Zab (Zaa.go (Zay rfl rfl (IntWalk.i64_in _ (by omega)) rfl) (goMv rfl rfl (Zac ?_)));exact ⟨(j + 1, { N5 with po := N5.po.set j (finP y) },_),⟨by show j + 1 ≤ _; omega,hR6,hnd5,hmh5,fin_step hj1 hpo5 hy⟩,by show N.po.length - (j + 1) < N.po.length - j; omega,Zaq hF [40,50,51] rfl (rfl) ⟨rfl,rfl,rfl,rfl,trivial⟩⟩
      · refine ZaL (Zad ?_);have hje : j = N.po.length := by have h := h129; omega
        subst hje;rw [List.take_length,List.drop_length,List.append_nil] at hpo5;have hids5 : idsN N5 = its.map Itm.id := by unfold idsN at hids ⊢; rw [hnd5]; exact hids
        refine Zab (goMv rfl rfl (goAs rfl rfl (goAs rfl rfl (Zac (Zao ?_)))));exact ⟨_,[40,50,51],_,Zak rfl,rfl,rfl,wb,mv,nb,pb2,N5,M5,some (List.range (byL nb (its.map Itm.id)).length,(byL nb (its.map Itm.id)).length),rfl,by rw [hids5]; rfl,hR5,by rw [net_fin hits hros]; exact net_fin2 hT hnd5 hpo5⟩
end Go.Proofs.YtneihdahboilnaaGreat
