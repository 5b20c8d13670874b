/- The kit's contract of slices.Sort at integers as a contract over an owned row. No program in sight. -/
import Derived.Test.YtgdppeobgefogaaMg22
import Derived.Shelf.SortG.Plain
import Derived.Shelf.SortG.SortNone
namespace Go.Proofs.Ytgdppeobgefogaa
open Go.RowKit Go.Shelf
open Go.Sort (putRow Holds putCells)

def sortI (l : List Int) : List Int := l.mergeSort fun x y => decide (x ≤ y)
theorem sortI_perm (l : List Int) : (sortI l).Perm l := List.mergeSort_perm l _
theorem sortI_len (l : List Int) : (sortI l).length = l.length := (sortI_perm l).length_eq
abbrev zD (z : Int) : D := .raw (.int .i64 z)
variable {P : Program} {ρr : Ren}
end Go.Proofs.Ytgdppeobgefogaa
/- The kit's contract of slices.Sort at integers, over a row of a region. No program in sight. -/
namespace Go.Proofs.Ytgdppeobgefogaa
open Go.RowKit Go.Shelf
open Go.Sort (putRow Holds putCells)
variable {P : Program} {ρr : Ren}
theorem st_sortIN (L : SlLaysN.n53 P ρr) {E : TypeId} {g53 : FuncId} (xs : List Int) (hsz : xs.length < 4611686018427387904) {F : Fr} {s : AS} {d : Nat} {x : Operand} {ty : TypeId} {pos : String} {aft : Array Edge} {gd : Option (Nat × Bool)} {at_ : Array TypeId} {f b cap n : Nat} {M : MF} {row : List D} {hp' : Hp}
    (hg : ρr.f 53 = g53) (hM : hfam s.hp f = some [.multi M]) (hx : s.ev x = some (.d (.raw (sV b n cap)))) (hb : M b = some (.row E 1 cap row)) (hrow : row = xs.map zD) (hn : n = xs.length) (hh : hmul? s.hp f (Zbn M b (.row E 1 cap ((sortI xs).map zD))) = some hp') (hd : Nat.blt d s.n = true) :
    Zap P F ⟨some d, .call { callee := .value (.func g53), args := #[x], argTypes := at_ }, ty, pos, aft, gd⟩ s ⟨s.n, (d, .d (.tup [])) :: s.env, hp'⟩ (fun _ _ => true) := by
  subst hg hrow hn;intro ρ act w hs
  obtain ⟨fn6, hf1, hf2, hf3⟩ : ∃ fn, P.funcs[ρr.f 53]? = some fn ∧ (fn.name == "runtime.NumGoroutine") = false ∧ fn.body.isSome = true := by
    obtain ⟨nm, hn, hf⟩ := L.f53;exact ⟨_, hf, hn, rfl⟩
  unfold Oper.wp;rw [show (#[x] : Array Operand) = [x].toArray from rfl, run_call hf1 hf2 hf3, Oper.upon_enter]
  suffices key : Calls P (ρr.f 53) ([x].map act.eval).toArray w fun e w' => e = .returned (.tuple #[]) ∧ SR F ⟨s.n, s.env, hp'⟩ ρ act w' by
    refine key.mono fun e w' ⟨e1, hsr⟩ => ?_;subst e1;exact ⟨ρ, hsr.put (Zbi hd) (.d (.tup rfl fun i c v hc => by cases hc)), fun _ _ _ => rfl⟩
  have r0 := hs.raw hx;obtain ⟨hρ, us, q1, q2, q3⟩ := hs.rowN hM hb;show Calls P (ρr.f 53) #[act.eval x] w _;rw [r0]
  by_cases hxs : xs = []
  · subst hxs;refine (AnyG.slices_Sort_int_none L (some ⟨b, 0, none⟩) cap w).mono fun e w' ⟨e1, e2⟩ => ?_;subst e1 e2;have h0 : sortI [] = [] := by simp [sortI]
    rw [h0] at hh;exact ⟨rfl, hs.shrinkN f b 0 hM hb (Nat.zero_le _) hh⟩
  have hn : 0 < xs.length := List.length_pos_iff.2 hxs
  obtain ⟨cur, p1, p2, p3, p3', p4⟩ : ∃ cur, w.heap[b]? = some (.cells cur E (0, 0)) ∧ cur.size = cap ∧ xs.length ≤ cap ∧ cap ≤ maxLen ∧ cur.toList.take xs.length = us := by
    rcases q1.2 with ⟨_, h⟩ | ⟨b', cap', cur, e1, _, e2, e3, e4, e5, e6⟩
    · rw [List.length_map] at h; omega
    · rw [List.length_map] at e1;injection e1 with e1 e7 e8
      injection e1 with e1
      injection e1 with e1
      subst e1 e8;rw [List.length_map] at e3 e6;exact ⟨cur, e2, by omega, e3, e4, by rwa [Nat.mul_one] at e6⟩
  have hlt : b < w.heap.size := (Array.getElem?_eq_some_iff.1 p1).1
  have hus : ∀ i (hi : i < xs.length), us[i]? = some (.int .i64 xs[i]) := fun i hi => by
    have hm : (xs.map zD)[i]? = some (zD xs[i]) := by rw [List.getElem?_map, List.getElem?_eq_getElem hi]; rfl
    obtain ⟨u, hu, _, hr⟩ := q2.2.2 i _ hm 0 (zD xs[i]) rfl;rw [Nat.mul_one, Nat.add_zero] at hu
    cases hr with
    | raw _ => exact hu
  have hH : Holds (Value.int .i64) w b 0 xs.toArray := by
    intro j hj;have hj : j < xs.length := by simpa using hj
    refine ⟨?_, ?_⟩
    · have hju : us[j]? = cur.toList[j]? := by rw [← p4, List.getElem?_take_of_lt hj]
      simp only [World.cell?, p1, Nat.zero_add];have h1 := hus j hj;rw [hju] at h1;rw [getElem!_pos _ j (by simpa using hj)];have hjc : j < cur.size := by simpa using (List.getElem?_eq_some_iff.1 h1).1
      simp only [List.getElem_toArray]
      simp [hjc] at h1 ⊢
      exact h1
    · simp only [World.frozen?, p1]; simp
  have key := AnyG.slices_Sort_int L b 0 cap xs w hH hlt hsz;refine key.mono fun e w' ⟨e1, nd, os, hw⟩ => ?_;subst e1 hw
  obtain ⟨ys, hys⟩ : ∃ ys, sortI xs = ys := ⟨_, rfl⟩
  have hys' : (xs.mergeSort fun x y => decide (x ≤ y)) = ys := hys;have hyl : ys.length = xs.length := by rw [← hys, sortI_len]
  rw [hys] at hh;rw [hys'];refine ⟨rfl, ?_⟩;have hsz2 : ((putRow (Value.int .i64) (Go.Sort.ahead w nd) b 0 ys.toArray)).heap.size = w.heap.size := by rw [Go.Sort.size_putRow]; rfl
  have hoth : ∀ b', b' < w.heap.size → b' ≠ b → (Go.Sort.grow (putRow (Value.int .i64) (Go.Sort.ahead w nd) b 0 ys.toArray) os).heap[b']? = w.heap[b']? := fun b' hl hne => by
    rw [Go.Sort.heap_grow_old _ _ (by rw [hsz2]; exact hl)];show (w.heap.modify b _)[b']? = _;rw [Array.getElem?_modify, if_neg (Ne.symm hne)]
  have hset : ∀ g i, hget hp' g i = if g = f ∧ i = b then some (.nr b E 1 cap (ys.map zD)) else hget s.hp g i := fun g i => by
    rw [hmul?_spec hh]
    by_cases e : g = f
    · subst e;rw [if_pos rfl, Zba hM]
      by_cases e2 : i = b
      · subst e2; rw [if_pos ⟨rfl, rfl⟩, ZbF]; rfl
      · rw [if_neg (fun h => e2 h.2), mput_ne e2]
    · rw [if_neg e, if_neg (fun h => e h.1)]
  refine hs.writeG f b (.nr b E 1 cap (xs.map zD)) (.nr b E 1 cap (ys.map zD)) (by rw [Zba hM, hb]; rfl) hset rfl rfl rfl (by rw [Go.Sort.size_grow, hsz2]; exact Nat.le_add_right _ _) (Nat.le_add_right _ _) (fun b' hl hno => hoth b' hl (fun e => hno (by rw [e, hρ]; rfl))) (fun _ _ e => by cases e) fun hrep => ?_
  have hheap : (Go.Sort.grow (putRow (Value.int .i64) (Go.Sort.ahead w nd) b 0 ys.toArray) os).heap[b]? = some (.cells (putCells (Value.int .i64) 0 ys.toArray cur) E (0, 0)) := by
    rw [Go.Sort.heap_grow_old _ _ (by rw [hsz2]; exact hlt)];show (w.heap.modify b _)[b]? = _;rw [Array.getElem?_modify, if_pos rfl, p1]; rfl
  have hcs : (putCells (Value.int .i64) 0 ys.toArray cur).size = cap := by simp only [putCells, Array.size_mapIdx]; exact p2
  have hyl2 : (ys.map zD).length = xs.length := by rw [List.length_map, hyl]
  refine ⟨hρ, ys.map (Value.int .i64), ⟨by rw [List.length_map, hyl2, hyl, Nat.mul_one], .inr ⟨b, cap, _, by rw [hyl2], Nat.zero_le _, hheap, by rw [hyl2]; exact p3, p3', by omega, ?_⟩⟩, ⟨by rw [List.length_map, hyl2, hyl, Nat.mul_one], fun x hx2 => ?_, fun i x hx2 j c hc2 => ?_⟩, fun x hx2 c hc2 => ?_⟩
  · rw [hyl2, Nat.mul_one]
    apply List.ext_getElem?
    intro i
    by_cases hi : i < xs.length
    · rw [List.getElem?_take_of_lt hi, Array.getElem?_toList, List.getElem?_map, List.getElem?_eq_getElem (by omega), Array.getElem?_eq_getElem (by omega)];simp only [putCells, Array.getElem_mapIdx];rw [if_pos ⟨Nat.zero_le _, by simp; omega⟩];simp only [Nat.sub_zero, Option.map_some];rw [getElem!_pos _ i (by simp; omega)]
      simp
    · rw [List.getElem?_eq_none (by rw [List.length_take]; omega), List.getElem?_eq_none (by rw [List.length_map]; omega)]
  · obtain ⟨y, _, rfl⟩ := List.mem_map.1 hx2; rfl
  · rw [List.getElem?_map] at hx2
    cases hyi : ys[i]? with
    | none => rw [hyi] at hx2; cases hx2
    | some y =>
      rw [hyi] at hx2;injection hx2 with hx2; subst hx2
      have hj0 : j = 0 := by have := (List.getElem?_eq_some_iff.1 hc2).1; simp [D.cells] at this; exact this
      subst hj0;simp only [D.cells, List.getElem?_cons_zero, Option.some.injEq] at hc2;subst hc2;exact ⟨.int .i64 y, by rw [Nat.mul_one, Nat.add_zero, List.getElem?_map, hyi]; rfl, rfl, .raw rfl⟩
  · obtain ⟨y, _, rfl⟩ := List.mem_map.1 hx2;simp only [D.cells, List.mem_singleton] at hc2;subst hc2; rfl
theorem st_sortI0 (L : SlLaysN.n53 P ρr) {g53 : FuncId} {F : Fr} {s : AS} {d : Nat} {x : Operand} {ty : TypeId} {pos : String} {aft : Array Edge} {gd : Option (Nat × Bool)} {at_ : Array TypeId}
    (hg : ρr.f 53 = g53) (hx : s.ev x = some (.d (.raw (.slice none 0 0)))) (hd : Nat.blt d s.n = true) :
    Zap P F ⟨some d, .call { callee := .value (.func g53), args := #[x], argTypes := at_ }, ty, pos, aft, gd⟩ s ⟨s.n, (d, .d (.tup [])) :: s.env, s.hp⟩ (fun _ _ => true) := by
  subst hg;intro ρ act w hs
  obtain ⟨fn6, hf1, hf2, hf3⟩ : ∃ fn, P.funcs[ρr.f 53]? = some fn ∧ (fn.name == "runtime.NumGoroutine") = false ∧ fn.body.isSome = true := by
    obtain ⟨nm, hn, hf⟩ := L.f53;exact ⟨_, hf, hn, rfl⟩
  unfold Oper.wp;rw [show (#[x] : Array Operand) = [x].toArray from rfl, run_call hf1 hf2 hf3, Oper.upon_enter];have r0 := hs.raw hx;show Calls P (ρr.f 53) #[act.eval x] w _;rw [r0];refine (AnyG.slices_Sort_int_none L none 0 w).mono fun e w' ⟨e1, e2⟩ => ?_;subst e1 e2;exact ⟨ρ, hs.put (Zbi hd) (.d (.tup rfl fun i c v hc => by cases hc)), fun _ _ _ => rfl⟩
end Go.Proofs.Ytgdppeobgefogaa
/- Openers under other words. No program in sight. -/
namespace Go.Proofs.Ytgdppeobgefogaa
open Go.ChangeShapes Go.WideShapes Go.ChangeAt Go.RowKit

section
variable {H : Type} {enc : TypeId × Value → H} {P : Program} {w : World}
end
end Go.Proofs.Ytgdppeobgefogaa
/- Openers of small numbers. No program in sight. -/
namespace Go.Proofs.Ytgdppeobgefogaa
open Go.ChangeShapes Go.WideShapes Go.ChangeAt Go.RowKit

section
variable {H : Type} {enc : TypeId × Value → H} {P : Program} {w : World}
end
end Go.Proofs.Ytgdppeobgefogaa
/- slices.Compact at integers, over a row of a region. -/
namespace Go.Proofs.Ytgdppeobgefogaa
open Go.RowKit
def cptP (l : List Nat) (i : Nat) : Prop := i = 0 ∨ nth l i ≠ nth l (i - 1)
instance (l : List Nat) (i : Nat) : Decidable (cptP l i) := inferInstanceAs (Decidable (_ ∨ _))
def cptK (l : List Nat) (j : Nat) : List Nat := ((List.range j).filter fun i => decide (cptP l i)).map (nth l)
theorem cptK_snoc (l : List Nat) (j : Nat) : cptK l (j + 1) = cptK l j ++ if cptP l j then [nth l j] else [] := by
  unfold cptK;rw [List.range_succ, List.filter_append, List.map_append]
  congr 1
  by_cases h : cptP l j
  · rw [if_pos h, List.filter_cons_of_pos (by simpa using h)]; rfl
  · rw [if_neg h, List.filter_cons_of_neg (by simpa using h)]; rfl
theorem cptK_in {l : List Nat} {j : Nat} (h : cptP l j) : cptK l (j + 1) = cptK l j ++ [nth l j] := by rw [cptK_snoc, if_pos h]
theorem cptK_out {l : List Nat} {j : Nat} (h : ¬ cptP l j) : cptK l (j + 1) = cptK l j := by rw [cptK_snoc, if_neg h, List.append_nil]
theorem cptK_le (l : List Nat) (j : Nat) : (cptK l j).length ≤ j := by
  unfold cptK; rw [List.length_map]; exact Nat.le_trans (List.length_filter_le _ _) (by simp)
theorem take_nth {l : List Nat} {k : Nat} (h : k < l.length) : l.take (k + 1) = l.take k ++ [nth l k] := by rw [List.take_succ_eq_append_getElem h, Zbk h]
theorem cptK_all {l : List Nat} (h : l.length ≤ 1) : cptK l l.length = l := by
  match l, h with
  | [], _ => rfl
  | [a], _ => rfl
theorem nth_drop {c l : List Nat} {k j : Nat} (h : c.drop k = l.drop k) (hj : k ≤ j) : nth c j = nth l j := by
  have e : (c.drop k)[j - k]? = (l.drop k)[j - k]? := by rw [h]
  rw [List.getElem?_drop, List.getElem?_drop, show k + (j - k) = j by omega] at e;unfold nth;rw [List.getD_eq_getElem?_getD, List.getD_eq_getElem?_getD, e]
structure CQ (l c : List Nat) (j q : Nat) : Prop where
  len : c.length = l.length
  jl : j ≤ l.length
  q1 : q + 1 ≤ j
  tk : c.take q = cptK l j
  dr : c.drop (j - 1) = l.drop (j - 1)
theorem CQ.start {l : List Nat} {k : Nat} (h1 : k < l.length) (h0 : 0 < k) (h : cptK l k = l.take k) (he : nth l k = nth l (k - 1)) : CQ l l (k + 1) k :=
  ⟨rfl, by omega, Nat.le_refl _, by rw [cptK_out (fun h => h.elim (fun e => by omega) fun e => e he), h], rfl⟩
theorem CQ.get {l c : List Nat} {j q : Nat} (h : CQ l c j q) : nth c j = nth l j ∧ nth c (j - 1) = nth l (j - 1) := ⟨nth_drop h.dr (by omega), nth_drop h.dr (Nat.le_refl _)⟩
theorem CQ.drop {l c : List Nat} {j q : Nat} (h : CQ l c j q) (hj : j < l.length) (he : nth c j = nth c (j - 1)) : CQ l c (j + 1) q := by
  have hq := h.q1;obtain ⟨g1, g2⟩ := h.get;refine ⟨h.len, by omega, by omega, by rw [h.tk, cptK_out (fun hc => hc.elim (fun e => by omega) fun e => e (by rw [← g1, ← g2]; exact he))], ?_⟩;have := congrArg (List.drop 1) h.dr
  rwa [List.drop_drop, List.drop_drop, show j - 1 + 1 = j by omega] at this
theorem CQ.keep {l c : List Nat} {j q : Nat} (h : CQ l c j q) (hj : j < l.length) (he : nth c j ≠ nth c (j - 1)) : CQ l (c.set q (nth c j)) (j + 1) (q + 1) := by
  have hq := h.q1;have hl := h.len;obtain ⟨g1, g2⟩ := h.get;refine ⟨by rw [List.length_set]; exact h.len, by omega, by omega, ?_, ?_⟩
  · rw [cptK_in (.inr (by rw [← g1, ← g2]; exact he)), ← h.tk, ← g1, List.take_succ_eq_append_getElem (by rw [List.length_set]; omega), List.take_set, List.getElem_set_self];rw [List.set_eq_of_length_le (by rw [List.length_take]; exact Nat.min_le_left _ _)]
  · rw [Nat.add_sub_cancel, List.drop_set, if_pos (by omega)];have := congrArg (List.drop 1) h.dr
    rwa [List.drop_drop, List.drop_drop, show j - 1 + 1 = j by omega] at this
theorem mput_self {M : MF} {b : Nat} {m : MObj} (h : M b = some m) : Zbn M b m = M := by
  funext i; unfold Zbn; split
  · rename_i e; rw [e, h]
  · rfl
theorem mput2 (M : MF) (b : Nat) (m m' : MObj) : Zbn (Zbn M b m) b m' = Zbn M b m' := by
  funext i; unfold Zbn; split <;> rfl
theorem one_nats (l : List Nat) : ∀ x ∈ l.map natD, x.one = true := fun x hx => by obtain ⟨a, _, rfl⟩ := List.mem_map.1 hx; rfl
theorem setL_lt {α : Type} : ∀ (z c : List α) (q j : Nat), j < q → (setL c q z)[j]? = c[j]?
  | [], _, _, _, _ => rfl
  | v :: r, c, q, j, h => by
    unfold setL;rw [setL_lt r _ _ _ (by omega), List.getElem?_set_ne (by omega)]
theorem clr_take {c : List Nat} {q : Nat} {z : List D} (h : q ≤ c.length) : (setL (c.map natD) q z).take q = (c.take q).map natD := by
  apply List.ext_getElem?
  intro j
  by_cases hj : j < q
  · rw [List.getElem?_take_of_lt hj, List.getElem?_map, List.getElem?_take_of_lt hj, ← List.getElem?_map];exact setL_lt _ _ _ _ hj
  · rw [List.getElem?_eq_none (by rw [List.length_take, ZbB]; omega), List.getElem?_eq_none (by rw [List.length_map, List.length_take]; omega)]
set_option maxRecDepth 100000 in
theorem compact_c (l : List Nat) (b cap : Nat) (M : MF) (hl : l.length ≤ 100000000) (hc : l.length ≤ cap) (hM : M b = some (.row 3 1 cap (l.map natD))) :
    ACalls Try.prog 42 [.d (.raw (sV b l.length cap))] [(40, [.multi M])] fun r H' => r = .d (.raw (sV b (cptK l l.length).length cap)) ∧ H' = [(40, [.multi (Zbn M b (.row 3 1 cap ((cptK l l.length).map natD)))])] := by
  by_cases hs : l.length ≤ 1
  · rw [cptK_all hs, mput_self hM];refine ZaY Try.func42 rfl rfl Try.ntmps42 rfl rfl rfl fun F hF => (Zag (Zae (goAs rfl rfl (Zaf (Zag (Zag (Zae (goMv rfl rfl ?_))))))))
    first | refine Zab.go (ZaU rfl Try.underlying25 rfl) ?_ | refine Zab.go (Zay rfl rfl Try.underlying25 rfl) ?_ | refine Zab.go (Za8 rfl Try.underlying25 rfl) ?_ | refine Zab.go (Za0 rfl Try.underlying25 rfl) ?_ | refine Zab.go (Za9 rfl Try.underlying25 rfl) ?_ | refine Zab.go (Za6 rfl Try.underlying25 rfl) ?_
    first | refine Zab.go (ZaR rfl rfl rfl) ?_ | refine Zab.go (ZaM rfl rfl rfl) ?_
    refine Zaf (a_true rfl (decide_eq_true (by omega)) (Zag (Zae (goMv rfl rfl (goAs rfl rfl (Zaf (Za5 ?_)))))));exact ⟨_, [40], _, ZaT rfl, rfl, rfl, rfl, rfl⟩
  · skip;refine ZaY Try.func42 rfl rfl Try.ntmps42 rfl rfl rfl fun F hF => (Zag (Zae (goAs rfl rfl (Zaf (Zag (Zag (Zae (goMv rfl rfl ?_))))))))
    first | refine Zab.go (ZaU rfl Try.underlying25 rfl) ?_ | refine Zab.go (Zay rfl rfl Try.underlying25 rfl) ?_ | refine Zab.go (Za8 rfl Try.underlying25 rfl) ?_ | refine Zab.go (Za0 rfl Try.underlying25 rfl) ?_ | refine Zab.go (Za9 rfl Try.underlying25 rfl) ?_ | refine Zab.go (Za6 rfl Try.underlying25 rfl) ?_
    first | refine Zab.go (ZaR rfl rfl rfl) ?_ | refine Zab.go (ZaM rfl rfl rfl) ?_
    refine Zaf ?_;refine Zbm rfl (decide_eq_false (by omega)) (Zax (Zag (Zag (Zae (goAs rfl rfl (Zaf (Zau (ZaO (α := Nat) (fun k => ⟨61, [(0, .d (.raw (sV b l.length cap))), (3, (.d (natD k)))], [(40, [.multi M])]⟩) (fun k => 1 ≤ k ∧ k ≤ l.length ∧ cptK l k = l.take k) (fun k => l.length - k) (1) (⟨Nat.le_refl _, by omega, by rw [cptK_in (.inl rfl), take_nth (by omega)]; rfl⟩) (Zao hF [40] rfl rfl ⟨rfl, rfl, trivial⟩) ?_))))))));rintro k ⟨hk1, hk, hck⟩;refine Zag (Zag (Zae (goMv rfl rfl (goMv rfl rfl ?_))))
    first | refine Zab.go (ZaU rfl Try.underlying25 rfl) ?_ | refine Zab.go (Zay rfl rfl Try.underlying25 rfl) ?_ | refine Zab.go (Za8 rfl Try.underlying25 rfl) ?_ | refine Zab.go (Za0 rfl Try.underlying25 rfl) ?_ | refine Zab.go (Za9 rfl Try.underlying25 rfl) ?_ | refine Zab.go (Za6 rfl Try.underlying25 rfl) ?_
    first | refine Zab.go (ZaR rfl rfl rfl) ?_ | refine Zab.go (ZaM rfl rfl rfl) ?_
    refine Zaf ?_
    first | refine ZaQ rfl (fun h13 => ?_) (fun h13 => ?_) | refine ZaF rfl (fun h13 => ?_) (fun h13 => ?_)
    · refine Zax (Zag (Zau (Zag ?_)));have hkl : k < l.length := ZaW h13;refine Za7 [[], [], [0, 1], [0, 1, 2], [], [], [5], [4, 5, 6], [4, 5, 6, 7], [0, 1, 2, 3, 4, 5, 6, 7, 8]] mixed rfl (dws ?_)
      first | refine Zad [0] [] rfl rfl (fun _ => Zaa (Zah rfl rfl)) ?_ | refine Zac [0] rfl rfl (fun _ => Zaa (Zah rfl rfl)) ?_
      first | refine Zad [3] [] rfl rfl (fun _ => Zaa (Zah rfl rfl)) ?_ | refine Zac [3] rfl rfl (fun _ => Zaa (Zah rfl rfl)) ?_
      first | refine Zad [16, 17] [] rfl rfl (fun _ => Zaa (st_indexN (k) rfl rfl (rfl) (hkl) Try.underlying25 sz3 rfl)) ?_ | refine Zac [16, 17] rfl rfl (fun _ => Zaa (st_indexN (k) rfl rfl (rfl) (hkl) Try.underlying25 sz3 rfl)) ?_
      first | refine Zad [18] [] rfl rfl (fun _ => Zaa (Zb3 (f := 40) (e := k) (off := 0) rfl (by omega) rfl (hM) (getn hkl) rfl on3 rfl)) ?_ | refine Zac [18] rfl rfl (fun _ => Zaa (Zb3 (f := 40) (e := k) (off := 0) rfl (by omega) rfl (hM) (getn hkl) rfl on3 rfl)) ?_
      first | refine Zad [0] [] rfl rfl (fun _ => Zaa (Zah rfl rfl)) ?_ | refine Zac [0] rfl rfl (fun _ => Zaa (Zah rfl rfl)) ?_
      first | refine Zad [3] [] rfl rfl (fun _ => Zaa (Zah rfl rfl)) ?_ | refine Zac [3] rfl rfl (fun _ => Zaa (Zah rfl rfl)) ?_
      first | refine Zad [21] [] rfl rfl (fun _ => Zaa (Zbd rfl rfl (IntWalk.i64_in _ (by omega)) rfl)) ?_ | refine Zac [21] rfl rfl (fun _ => Zaa (Zbd rfl rfl (IntWalk.i64_in _ (by omega)) rfl)) ?_
      first | refine Zad [20, 22] [] rfl rfl (fun _ => Zaa (st_indexN (k - 1) rfl rfl (by omega) (by omega) Try.underlying25 sz3 rfl)) ?_ | refine Zac [20, 22] rfl rfl (fun _ => Zaa (st_indexN (k - 1) rfl rfl (by omega) (by omega) Try.underlying25 sz3 rfl)) ?_
      first | refine Zad [23] [] rfl rfl (fun _ => Zaa (Zb3 (f := 40) (e := k - 1) (off := 0) rfl (by omega) rfl (hM) (getn (by omega)) rfl on3 rfl)) ?_ | refine Zac [23] rfl rfl (fun _ => Zaa (Zb3 (f := 40) (e := k - 1) (off := 0) rfl (by omega) rfl (hM) (getn (by omega)) rfl on3 rfl)) ?_
      refine dwc 9 rfl rfl rfl (dw1 10 rfl rfl ?_)
      first | refine Zab.go (Zby rfl rfl rfl) ?_ | refine Zab.go (Zbg rfl rfl rfl) ?_ | refine Zab.go (Zbp rfl rfl rfl) ?_ | refine Zab.go (Zbu Try.underlying3 rfl rfl rfl) ?_ | refine Zab.go (Zbr Try.underlying3 rfl rfl rfl) ?_ | refine Zab.go (Zbs Try.underlying3 rfl rfl) ?_ | refine Zab.go (Zbt Try.underlying3 rfl rfl rfl) ?_ | refine Zab.go (Zbh Try.underlying3 rfl rfl) ?_
      refine Zaf ⟨rfl, ?_⟩;refine dwe ?_
      first | refine ZaQ rfl (fun h25 => ?_) (fun h25 => ?_) | refine ZaF rfl (fun h25 => ?_) (fun h25 => ?_)
      · refine Zag ?_;have hst := CQ.start hkl hk1 hck (Int.ofNat.inj h25);refine Zae (goMv rfl rfl (goMv rfl rfl ?_));refine Zab.go (st_sliceLoN k rfl rfl rfl hk (by omega) Try.underlying25 sz3 rfl) (goAs rfl rfl (Zaf (Zag (Zag (Zae (goAs rfl rfl (Zaf (Zau ?_))))))));rw [← mput_self hM];refine ZaO (α := Nat × Nat × List Nat) (fun w => ⟨61, [(0, .d (.raw (sV b l.length cap))), (3, (.d (natD w.2.1))), (4, (.d (.raw (.slice (some ⟨b, k, none⟩) (l.length - k) (cap - k))))), (5, (.d (natD w.1)))], [(40, [.multi (Zbn M b (.row 3 1 cap (w.2.2.map natD)))])]⟩) (fun w => k + w.1 ≤ l.length ∧ 1 ≤ w.1 ∧ CQ l w.2.2 (k + w.1) w.2.1) (fun w => l.length - (k + w.1)) ((1, k, l)) (⟨hkl, Nat.le_refl _, hst⟩) (Zao hF [40] rfl rfl ⟨rfl, rfl, rfl, rfl, trivial⟩) ?_;rintro ⟨p, q, c⟩ ⟨hp, hp1, hC⟩;dsimp only at hp hp1 hC ⊢;refine Zag (Zag (Zae (goMv rfl rfl (goMv rfl rfl ?_))))
        first | refine Zab.go (ZaU rfl Try.underlying25 rfl) ?_ | refine Zab.go (Zay rfl rfl Try.underlying25 rfl) ?_ | refine Zab.go (Za8 rfl Try.underlying25 rfl) ?_ | refine Zab.go (Za0 rfl Try.underlying25 rfl) ?_ | refine Zab.go (Za9 rfl Try.underlying25 rfl) ?_ | refine Zab.go (Za6 rfl Try.underlying25 rfl) ?_
        first | refine Zab.go (ZaR rfl rfl rfl) ?_ | refine Zab.go (ZaM rfl rfl rfl) ?_
        refine Zaf ?_
        first | refine ZaQ rfl (fun h32 => ?_) (fun h32 => ?_) | refine ZaF rfl (fun h32 => ?_) (fun h32 => ?_)
        · refine Zax (Zag (Zau (Zag ?_)));have hpl : k + p < l.length := by have := h32; omega
          have hcl := hC.len;have hcq := hC.q1;refine Za7 [[], [], [0, 1], [0, 1, 2], [], [], [5], [4, 5, 6], [4, 5, 6, 7], [0, 1, 2, 3, 4, 5, 6, 7, 8]] mixed rfl (dws ?_)
          first | refine Zad [4] [] rfl rfl (fun _ => Zaa (Zah rfl rfl)) ?_ | refine Zac [4] rfl rfl (fun _ => Zaa (Zah rfl rfl)) ?_
          first | refine Zad [5] [] rfl rfl (fun _ => Zaa (Zah rfl rfl)) ?_ | refine Zac [5] rfl rfl (fun _ => Zaa (Zah rfl rfl)) ?_
          first | refine Zad [35, 36] [] rfl rfl (fun _ => Zaa (st_indexT p rfl rfl rfl (by omega) Try.underlying25 sz3 rfl)) ?_ | refine Zac [35, 36] rfl rfl (fun _ => Zaa (st_indexT p rfl rfl rfl (by omega) Try.underlying25 sz3 rfl)) ?_
          first | refine Zad [37] [] rfl rfl (fun _ => Zaa (Zb3 (f := 40) (e := k + p) (off := 0) rfl (by omega) rfl (ZbF _ _ _) (getn (by omega)) rfl on3 rfl)) ?_ | refine Zac [37] rfl rfl (fun _ => Zaa (Zb3 (f := 40) (e := k + p) (off := 0) rfl (by omega) rfl (ZbF _ _ _) (getn (by omega)) rfl on3 rfl)) ?_
          first | refine Zad [4] [] rfl rfl (fun _ => Zaa (Zah rfl rfl)) ?_ | refine Zac [4] rfl rfl (fun _ => Zaa (Zah rfl rfl)) ?_
          first | refine Zad [5] [] rfl rfl (fun _ => Zaa (Zah rfl rfl)) ?_ | refine Zac [5] rfl rfl (fun _ => Zaa (Zah rfl rfl)) ?_
          first | refine Zad [40] [] rfl rfl (fun _ => Zaa (Zbd rfl rfl (IntWalk.i64_in _ (by omega)) rfl)) ?_ | refine Zac [40] rfl rfl (fun _ => Zaa (Zbd rfl rfl (IntWalk.i64_in _ (by omega)) rfl)) ?_
          first | refine Zad [39, 41] [] rfl rfl (fun _ => Zaa (st_indexT (p - 1) rfl rfl (by omega) (by omega) Try.underlying25 sz3 rfl)) ?_ | refine Zac [39, 41] rfl rfl (fun _ => Zaa (st_indexT (p - 1) rfl rfl (by omega) (by omega) Try.underlying25 sz3 rfl)) ?_
          first | refine Zad [42] [] rfl rfl (fun _ => Zaa (Zb3 (f := 40) (e := k + p - 1) (off := 0) rfl (by omega) rfl (ZbF _ _ _) (getn (by omega)) rfl on3 rfl)) ?_ | refine Zac [42] rfl rfl (fun _ => Zaa (Zb3 (f := 40) (e := k + p - 1) (off := 0) rfl (by omega) rfl (ZbF _ _ _) (getn (by omega)) rfl on3 rfl)) ?_
          refine dwc 9 rfl rfl rfl (dw1 10 rfl rfl ?_)
          first | refine Zab.go (ZbU rfl rfl rfl) ?_ | refine Zab.go (ZbA rfl rfl rfl) ?_ | refine Zab.go (ZbG rfl rfl rfl) ?_ | refine Zab.go (ZbN Try.underlying3 rfl rfl rfl) ?_ | refine Zab.go (ZbL Try.underlying3 rfl rfl rfl) ?_ | refine Zab.go (st_neqN Try.underlying3 rfl rfl) ?_ | refine Zab.go (ZbM Try.underlying3 rfl rfl rfl) ?_ | refine Zab.go (st_neqFN Try.underlying3 rfl rfl) ?_
          refine Zaf ⟨rfl, ?_⟩;refine dwe ?_
          first | refine ZaQ rfl (fun h44 => ?_) (fun h44 => ?_) | refine ZaF rfl (fun h44 => ?_) (fun h44 => ?_)
          · refine Zag (Zae (goMv rfl rfl ?_));refine goMv rfl rfl (goMv rfl rfl (goMv rfl rfl (Zab.go (st_indexT p rfl rfl rfl (by omega) Try.underlying25 sz3 rfl) (Zab.go (Zb3 (f := 40) (e := k + p) (off := 0) rfl (by omega) rfl (ZbF _ _ _) (getn (by omega)) rfl on3 rfl) (Zab.go (st_indexN (q) rfl rfl (rfl) (by omega) Try.underlying25 sz3 rfl) (Zap.go (st_storeRN (f := 40) (off := q * 1) rfl rfl rfl rfl (ZbF _ _ _) (by rw [List.length_map]; omega) (one_nats _) rfl sz3) (Zaf (Zae ?_))))))));refine goMv rfl rfl (Zab.go (ZaG rfl rfl (IntWalk.i64_in _ (by omega)) rfl) (goAs rfl rfl (Zaf (Zae (goMv rfl rfl (Zab.go (ZaG rfl rfl (IntWalk.i64_in _ (by omega)) rfl) (goAs rfl rfl (Zaf ?_))))))));exact ⟨(p + 1, q + 1, c.set q (nth c (k + p))), ⟨by show k + (p + 1) ≤ _; omega, by show 1 ≤ p + 1; omega, hC.keep hpl (fun e => h44 (congrArg Int.ofNat e))⟩, by show l.length - (k + (p + 1)) < l.length - (k + p); omega, Zao hF [40] rfl (by rw [mput2, List.map_set, Nat.mul_one]; rfl) ⟨rfl, rfl, rfl, rfl, trivial⟩⟩
          · refine Zax (Zae (goMv rfl rfl (Zab.go (ZaG rfl rfl (IntWalk.i64_in _ (by omega)) rfl) (goAs rfl rfl (Zaf ?_)))));exact ⟨(p + 1, q, c), ⟨by show k + (p + 1) ≤ _; omega, by show 1 ≤ p + 1; omega, hC.drop hpl (Int.ofNat.inj (Classical.not_not.1 h44))⟩, by show l.length - (k + (p + 1)) < l.length - (k + p); omega, Zao hF [40] rfl (rfl) ⟨rfl, rfl, rfl, rfl, trivial⟩⟩
        · refine ZaI (Zag ?_);have hpe : k + p = l.length := by have := h32; omega
          have hcl := hC.len;have hcq := hC.q1;have htk := hC.tk;rw [hpe] at htk;refine Zae (goMv rfl rfl (goMv rfl rfl (Zab.go (st_sliceLoN q rfl rfl rfl (by omega) (by omega) Try.underlying25 sz3 rfl) (Zap.go (st_clearT (f := 40) (xs := c.map natD) rfl rfl (ZbF _ _ _) (by omega) (by rw [List.length_map]; omega) (one_nats _) Try.underlying25 Try.zeroValue3 rfl rfl rfl) (Zaf (Zag ?_))))));have hqe : (cptK l l.length).length = q := by rw [← htk, List.length_take]; omega
          refine a_shrinkN 40 b q rfl (by rw [mput2]; exact ZbF _ _ _) (by rw [ZbB, List.length_map]; omega) rfl (Zae (goMv rfl rfl (goMv rfl rfl (Zab.go (st_sliceHiR q rfl rfl rfl (show q ≤ cap by omega) Try.underlying25 sz3 rfl) (goAs rfl rfl (Zaf (Za5 ?_)))))));exact ⟨_, [40], _, ZaT rfl, rfl, rfl, by rw [hqe], by rw [mput2, mput2, clr_take (by omega), htk, mput2]⟩
      · refine Zax (Zae (goMv rfl rfl (Zab.go (ZaG rfl rfl (IntWalk.i64_in _ (by omega)) rfl) (goAs rfl rfl (Zaf ?_)))));exact ⟨k + 1, ⟨by omega, hkl, by rw [cptK_in (.inr fun e => h25 (congrArg Int.ofNat e)), hck, take_nth hkl]⟩, by omega, Zao hF [40] rfl (rfl) ⟨rfl, rfl, trivial⟩⟩
    · refine ZaI (Zag (Zae (goMv rfl rfl (goAs rfl rfl (Zaf (Za5 ?_))))));exact ⟨_, [40], _, ZaT rfl, rfl, rfl, by rw [show k = l.length by have := h13; omega, List.take_length] at hck; rw [hck], by rw [show k = l.length by have := h13; omega, List.take_length] at hck; rw [hck, mput_self hM]⟩
end Go.Proofs.Ytgdppeobgefogaa
